/-
  FnPushBuildsHeap: the walk and the row.
-/
import Derived.Test.Qxb6612683aKeyRows
namespace Go.Proofs.Qxb6612683a.fnPushBuildsHeap
open Go.ChangeShapes Go.WideShapes Go.ChangeAt Go.RowKit Go.Deep
set_option linter.unusedVariables false

theorem own : ownKnob Try.prog.godebug = none := by kernel_rfl
theorem laidOut : laidOutB Try.prog = true := by kernel_rfl

theorem zzBytes10 (a0 : Option Addr) (l0 c0 : Nat) (w : World) (h0 : l0 ≤ maxLen) :
    Calls Try.prog 10 #[.slice a0 l0 c0] w fun e w' => ∃ r, e = .returned (.bool r) ∧ w' = w ∧ (l0 ≤ 65536 → r = true) := by
  unfold maxLen at h0
  go_enter Try.func10, Try.ntmps10
  go_wp2
  all_goals go_ret
  all_goals first | exact ⟨_, rfl, rfl, fun _ => rfl⟩ | exact ⟨_, rfl, rfl, fun _ => by omega⟩

set_option maxHeartbeats 400000 in
theorem walkEarly (a0 : Option Addr) (l0 c0 : Nat) (w : World) (h0 : l0 ≤ maxLen) (hbig : 4096 < l0) :
    Calls Try.prog 3 #[.slice a0 l0 c0] w fun e w' => e = .returned (.bool true) ∧ Below w.heap.size w w' := by
  have hz := zzBytes10 a0 l0 c0 w h0
  unfold maxLen at h0
  go_enter Try.func3, Try.ntmps3
  go_wp2_with fail
  refine hz.mono ?_
  rintro e w' ⟨r, rfl, rfl, -⟩
  cases r
  · go_wp2_with fail
    go_ret
    exact ⟨rfl, Below.refl _ _⟩
  · go_wp2_with fail
    go_ret
    exact ⟨rfl, Below.refl _ _⟩

set_option maxHeartbeats 4000000 in
theorem walkIn (a0 : Option Addr) (n c0 : Nat) (K : Nat → Int × Int) (w : World) (hn : n ≤ 4096) (hr : Row2 w a0 n K) :
    Calls Try.prog 3 #[.slice a0 n c0] w fun e w' => e = .returned (.bool true) ∧ Below w.heap.size w w' := by
  have hz := zzBytes10 a0 n c0 w (by unfold maxLen; omega)
  go_enter Try.func3, Try.ntmps3
  go_wp2_with fail
  refine hz.mono ?_
  rintro e w ⟨r, rfl, rfl, hr1⟩
  obtain rfl := hr1 (by omega)
  clear hr1 hz
  go_wp2_with fail
  refine (build_any a0 n c0 K _ hr (by omega)).mono ?_
  rintro e w1 ⟨rfl, hq, hb1⟩
  go_wp2_with fail
  refine (read_any _ n _ _ hq (by omega)).mono ?_
  rintro e w2 ⟨rfl, ⟨cs, hB, hs, hk⟩, hb2⟩
  have hN : NewRow w2 w1.heap.size n (builtK K n) := ⟨cs, hB, hs, hk⟩
  have hbel : Below w.heap.size w w2 := hb1.trans (hb2.mono hb1.size)
  have HH : Hid (HeapTo (builtK K n) n) := built_heap K n
  have HL : Hid (∀ i, i < n → kLess (K i) (builtK K n 0) = false) := fun i hi => built_least K hi
  have HC : Hid (∀ x, cnt (builtK K n) n x = cnt K n x) := fun x => built_cnt K x n
  have HR : Hid (Row2 w a0 n K) := hr
  have HN : Hid (NewRow w2 w1.heap.size n (builtK K n)) := hN
  generalize builtK K n = G at *
  have hg1 : w.heap.size ≤ w1.heap.size := hb1.size
  clear hq hb1 hB hs hk hb2 hN hr
  generalize w1.heap.size = g1 at *
  go_wp2_with fail
  go_loopw [5] (fun i wr => ∃ t : Nat, 1 ≤ t ∧ (t ≤ n ∨ t = 1) ∧ i = .int .i64 t ∧ NewRow wr g1 n G ∧ Below w.heap.size w wr) (fun i _ => n - (intOf i).toNat)
  case atStart => exact ⟨1, by omega, .inr rfl, rfl, HN.out, hbel⟩
  case round =>
    clear HN hbel
    obtain ⟨t, ht1, ht2, rfl, hN, hbel⟩ := hrel
    have HN : Hid (NewRow _ _ _ _) := hN
    by_cases hlt : t < n
    · obtain ⟨p, hp⟩ : ∃ p, p = (t - 1) / 2 := ⟨_, rfl⟩
      have e0 := hN.c0 hlt
      have e1 := hN.c1 hlt
      have d0 := hN.c0 (show p < n by omega)
      have d1 := hN.c1 (show p < n by omega)
      have hl : kLess (G t) (G p) = false := by rw [hp]; exact HH.out t (by omega) hlt
      have hw1 : IntKind.i64.wrap ((t : Int) - 1) = (t : Int) - 1 := by rw [IntKind.wrap_i64]; omega
      have hw2 : IntKind.i64.wrap (((t : Int) - 1).tdiv 2) = (p : Int) := by rw [IntKind.wrap_i64, Int.tdiv_eq_ediv_of_nonneg (by omega)]; omega
      have hlt2 : (t : Int) < (n : Int) := by omega
      have hpn : (p : Int) < (n : Int) := by omega
      have HP : Hid (p = (t - 1) / 2) := hp
      clear hN hp
      go_wp2_with fail
      go_region_with (go_at_call 13; refine (evLess_below (G t) (G p) _).mono ?_; rintro e w3 ⟨rfl, hb3⟩)
      all_goals
        have hN2 := HN.out.drew.below hb3
        have hbel2 : Below w.heap.size w w3 := hbel.drew.trans (hb3.mono hbel.size)
        have HN2 : Hid (NewRow _ _ _ _) := hN2
        clear hN2 hbel hb3 e0 e1 d0 d1 HN hw1 hw2
        go_wp2_with fail
        go_roundw
        case rel => exact ⟨t + 1, by omega, .inl (by omega), by go_num, HN2.out, hbel2⟩
        case measure => simp [intOf]; omega
    · clear hN
      go_wp2_with fail
      go_loopw [6] (fun i wr => ∃ t : Nat, t ≤ n ∧ i = .int .i64 t ∧ NewRow wr g1 n G ∧ Below w.heap.size w wr) (fun i _ => n - (intOf i).toNat)
      case atStart => exact ⟨0, Nat.zero_le _, rfl, HN.out, hbel⟩
      case round =>
        clear HN hbel hlt
        obtain ⟨q, hq, rfl, hN, hbel⟩ := hrel
        have HN : Hid (NewRow _ _ _ _) := hN
        by_cases hlt : q < n
        · obtain ⟨b, off, rfl, hb, c0, c1⟩ := HR.out q hlt
          rw [← hbel.cell (p := ⟨b, off + q * 2, none⟩) hb] at c0
          rw [← hbel.cell (p := ⟨b, off + q * 2 + 1, none⟩) hb] at c1
          have d0 := hN.c0 (show 0 < n by omega)
          have d1 := hN.c1 (show 0 < n by omega)
          have hl := HL.out q hlt
          have hlt2 : (q : Int) < (n : Int) := by omega
          have hpn : (0 : Int) < (n : Int) := by omega
          clear hN
          go_wp2_with fail
          go_region_with (go_at_call 13; refine (evLess_below (K q) (G 0) _).mono ?_; rintro e w3 ⟨rfl, hb3⟩)
          all_goals
            have hN2 := HN.out.drew.below hb3
            have hbel2 : Below w.heap.size w w3 := hbel.drew.trans (hb3.mono hbel.size)
            have HN2 : Hid (NewRow _ _ _ _) := hN2
            clear hN2 hbel hb3 c0 c1 d0 d1 HN
            go_wp2_with fail
            go_roundw
            case rel => exact ⟨q + 1, by omega, by go_num, HN2.out, hbel2⟩
            case measure => simp [intOf]; omega
        · clear hN
          go_wp2_with fail
          refine (sorted_any a0 n c0 K _ (Row2.later HR.out hbel) (by omega)).mono ?_
          rintro e w3 ⟨rfl, ⟨A, hNA, hSA, hCA⟩, hb3⟩
          have hNG := HN.out.below hb3
          go_wp2_with fail
          refine (sorted_any _ n n G _ (row2_new hNG) (by omega)).mono ?_
          rintro e w4 ⟨rfl, ⟨B, hNB, hSB, hCB⟩, hb4⟩
          have hNA4 := hNA.below hb4
          have hbel4 : Below w.heap.size w w4 := (hbel.trans (hb3.mono hbel.size)).trans (hb4.mono (Nat.le_trans hbel.size hb3.size))
          have heq : Hid (∀ i, i < n → A i = B i) := sorted_unique n A B hSA hSB (fun k => by rw [hCA, hCB, HC.out])
          have HI : Hid (NewRow w4 wr.heap.size n A ∧ NewRow w4 w3.heap.size n B) := ⟨hNA4, hNB⟩
          clear hNA hSA hCA hb3 hNG hNB hSB hCB hb4 hNA4 hbel HN
          generalize wr.heap.size = gA at *
          generalize w3.heap.size = gB at *
          go_wp2_with fail
          go_loopw [9] (fun i wr => ∃ t : Nat, t ≤ n ∧ i = .int .i64 t ∧ NewRow wr gA n A ∧ NewRow wr gB n B ∧ Below w.heap.size w wr) (fun i _ => n - (intOf i).toNat)
          case atStart => exact ⟨0, Nat.zero_le _, rfl, HI.out.1, HI.out.2, hbel4⟩
          case round =>
            clear HI hbel4 hlt
            obtain ⟨q, hq, rfl, hNA, hNB, hbel⟩ := hrel
            have HI : Hid (NewRow _ _ _ _ ∧ NewRow _ _ _ _) := ⟨hNA, hNB⟩
            by_cases hlt : q < n
            · have c0 := hNA.c0 hlt
              have c1 := hNA.c1 hlt
              have d0 := hNB.c0 hlt
              have d1 := hNB.c1 hlt
              rw [← heq.out q hlt] at d0 d1
              have hlt2 : (q : Int) < (n : Int) := by omega
              clear hNA hNB
              generalize A q = kk at *
              go_wp2_with fail
              go_quiet (fail)
              go_wp2_with fail
              go_roundw
              case rel => exact ⟨q + 1, by omega, by go_num, HI.out.1.drewN nq, HI.out.2.drewN nq, below_drewN hbel nq⟩
              case measure => simp [intOf]; omega
            · clear hNA hNB
              go_wp2_with fail
              go_ret
              exact ⟨rfl, hbel⟩

theorem walk (a0 : Option Addr) (len0 cap0 : Nat) (z0 : Nat → Int × Int) (w : World) (w0 : len0 ≤ maxLen ∧ Row2 w a0 len0 z0) :
    Calls Try.prog 3 #[.slice a0 len0 cap0] w fun e w' => e = .returned (.bool true) ∧ Below w.heap.size w w' := by
  by_cases hbig : 4096 < len0
  · exact walkEarly a0 len0 cap0 w w0.1 hbig
  · exact walkIn a0 len0 cap0 z0 w (by omega) w0.2

set_option maxRecDepth 100000 in
theorem lifted (os : Os) (started : os.Started) (H : Type) (enc : TypeId × Value → H) :
    ReturnsInHanded {} Try.checked os 3 .any (Rows.fnPushBuildsHeapSpec.pre6 enc Try.prog Try.f3 Rows.fnPushBuildsHeapRow.domain false) (Rows.fnPushBuildsHeapSpec.post enc Try.prog Try.f3 false true false false) := by
  refine returnsInHanded_of_change (C := Try.checked) own started (by kernel_rfl) Try.func3
    (ChangeSpec.witness6 (enc := enc) (C := Try.checked) false ⟨#[], #[.slice none 0 0], []⟩ 8 (by kernel_rfl) (by kernel_rfl) (by kernel_rfl) (by kernel_rfl)) ?_
  intro W base args ds gs before hval0 hW hcnd _
  have hval : ∀ (j : Nat) t v, Try.f3.params[j]? = some t → args[j]? = some v → Value.okWide Try.prog W .any base t v := hval0
  have hW' := hW
  obtain ⟨p, q, hA0, hV, rfl, hfz, hnd⟩ := hW
  have hA : DataW.TrodAll enc Try.prog W 0 (fun _ => true) true Try.f3.params.toList args.toList ds p := hA0
  rw [Try.params3] at hA hval
  obtain ⟨v0, vs0, d0, ds0, p0, q0, hargs, rfl, rfl, h0, r0⟩ := trodAll_cons hA
  obtain ⟨rfl, rfl, rfl⟩ := trodAll_nil r0
  obtain rfl : args = #[v0] := by cases args; simp_all
  obtain ⟨rfl, rfl⟩ := trodVars_none hV
  obtain ⟨a0, len0, cap0, rfl⟩ := okWide_slice Try.underlying22 (hval 0 22 v0 rfl rfl)
  have k0 := h0
  have lt0 : ∀ x ∈ p0, x.block < W.heap.size := by obtain ⟨m, hm⟩ := k0; exact DataW.trod_lt m _ _ _ hm
  obtain ⟨z0, w0⟩ : ∃ f : Nat → Int × Int, len0 ≤ maxLen ∧ Row2 W a0 len0 f := by obtain ⟨fuel, hf⟩ := h0; exact row_keys hf
  clear hA0 hval0
  refine (walk a0 len0 cap0 z0 W w0).mono fun e W' ⟨he, bel⟩ => ?_
  subst he
  exact ⟨_, rfl, _, _, _, [], _, [], hW', trodAll_mk1 (shut_bool Try.underlying4 _), (trodAll_cons_mk (Below.trod laidOut (by kernel_rfl) (of_decide_eq_true (by kernel_rfl)) k0 bel lt0) trodAll_mk0), rfl, bel.frame _, fun h => by cases h⟩

theorem over : Rows.fnPushBuildsHeapRow.holds Try.pinned (OpenSpec.ofChange Rows.fnPushBuildsHeapSpec) :=
  OpenClaim.holds_of_wide 3 Try.f3 rfl rfl rfl rfl rfl rfl rfl ⟨rfl, rfl, rfl, rfl, rfl⟩ rfl rfl rfl rfl rfl (by kernel_rfl) Try.func3 (by kernel_rfl)
    (of_decide_eq_true (by kernel_rfl)) (by unfold Func.isWrapper; first | (rw [if_pos (by decide +kernel)]; kernel_rfl) | (rw [if_neg (by decide +kernel)]; exact ⟨rfl, rfl⟩))
    (fun os started H enc _ => lifted os started H enc)

/-- The statement. -/
theorem proved : Rows.FnPushBuildsHeapSaid :=
  over
#print axioms proved
end Go.Proofs.Qxb6612683a.fnPushBuildsHeap
