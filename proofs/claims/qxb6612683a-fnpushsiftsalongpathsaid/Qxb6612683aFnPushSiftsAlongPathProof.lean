/-
  FnPushSiftsAlongPath: the walk and the row.
-/
import Derived.Test.Qxb6612683aKeyRows
import Derived.Test.Qxb6612683aPath
import Derived.Deep.DeepCutAuto
import Derived.Deep.CutBlock
import Derived.Lib.SmallJoins
namespace Go.Proofs.Qxb6612683a.fnPushSiftsAlongPath
open Go.ChangeShapes Go.WideShapes Go.ChangeAt Go.RowKit Go.Deep
open Go.Joins (open_agg2)
set_option linter.unusedVariables false

theorem own : ownKnob Try.prog.godebug = none := by kernel_rfl
theorem laidOut : laidOutB Try.prog = true := by kernel_rfl
theorem info3 : (Try.prog.info? 3).map (fun i => (i.zero, i.size, i.bytes)) = some (some (.int .i64 0), 1, 8) := by kernel_rfl
theorem info4 : (Try.prog.info? 4).map (fun i => (i.zero, i.size, i.bytes)) = some (some (.bool false), 1, 1) := by kernel_rfl

theorem zzBytes15 (a0 : Option Addr) (l0 c0 : Nat) (e1 e2 : Int) (w : World) (h0 : l0 ≤ maxLen) :
    Calls Try.prog 15 #[.slice a0 l0 c0, .agg #[.int .i64 e1, .int .u64 e2]] w fun e w' => ∃ r, e = .returned (.bool r) ∧ Below w.heap.size w w' ∧ (l0 ≤ 65536 → r = true) := by
  unfold maxLen at h0
  go_enter Try.func15, Try.ntmps15
  go_wp2
  all_goals go_ret
  all_goals first | exact ⟨_, rfl, (Below.refl _ _).alloc (Nat.le_refl _) _, fun _ => rfl⟩ | exact ⟨_, rfl, (Below.refl _ _).alloc (Nat.le_refl _) _, fun _ => by omega⟩ | exact ⟨_, rfl, Below.refl _ _, fun _ => rfl⟩ | exact ⟨_, rfl, Below.refl _ _, fun _ => by omega⟩

/-- A new row of one-cell elements at block g. -/
def One (w : World) (g n : Nat) (t : TypeId) (V : Nat → Value) : Prop := ∃ cs, Blk w g cs t ∧ cs.size = n ∧ ∀ j, j < n → cs[j]? = some (V j)
theorem One.cell {w : World} {g n : Nat} {t : TypeId} {V : Nat → Value} (h : One w g n t V) {i : Nat} (hi : i < n) : w.cell? ⟨g, i, none⟩ = some (V i) := by
  obtain ⟨cs, hb, _, hk⟩ := h
  exact hb.cellOf (hk i hi)
theorem One.free {w : World} {g n : Nat} {t : TypeId} {V : Nat → Value} (h : One w g n t V) (i : Nat) : w.frozen? ⟨g, i, none⟩ = false := by
  obtain ⟨cs, hb, _, hk⟩ := h
  exact hb.free i
theorem One.lt {w : World} {g n : Nat} {t : TypeId} {V : Nat → Value} (h : One w g n t V) : g < w.heap.size := by
  obtain ⟨cs, hb, _, hk⟩ := h
  exact hb.lt
theorem One.drewN {w : World} {g n : Nat} {t : TypeId} {V : Nat → Value} (h : One w g n t V) (m : Nat) : One (w.drewN m) g n t V := h
theorem One.drew {w : World} {g n : Nat} {t : TypeId} {V : Nat → Value} (h : One w g n t V) : One w.drew g n t V := h
theorem One.below {w w' : World} {g n : Nat} {t : TypeId} {V : Nat → Value} (h : One w g n t V) (hb : Below w.heap.size w w') : One w' g n t V := by
  obtain ⟨cs, hc, hs, hk⟩ := h
  exact ⟨cs, hc.below hb hc.lt, hs, hk⟩
theorem One.alloc {w : World} {g n : Nat} {t : TypeId} {V : Nat → Value} (h : One w g n t V) (o : Obj) : One (w.alloc o) g n t V := by
  obtain ⟨cs, hc, hs, hk⟩ := h
  exact ⟨cs, hc.alloc o, hs, hk⟩
theorem One.setOther {w : World} {g n : Nat} {t : TypeId} {V : Nat → Value} (h : One w g n t V) (b i : Nat) (v : Value) (hne : b ≠ g) : One (w.setCell ⟨b, i, none⟩ v) g n t V := by
  obtain ⟨cs, hc, hs, hk⟩ := h
  exact ⟨cs, hc.setOther b i v hne, hs, hk⟩
theorem One.put {w : World} {g n : Nat} {t : TypeId} {V : Nat → Value} (h : One w g n t V) {i : Nat} (hi : i < n) (v : Value) : One (w.setCell ⟨g, i, none⟩ v) g n t (fun j => if j = i then v else V j) := by
  obtain ⟨cs, hc, hs, hk⟩ := h
  refine ⟨_, hc.set i v, by simpa using hs, fun j hj => ?_⟩
  by_cases e : j = i
  · subst e; rw [Array.getElem?_setIfInBounds_self_of_lt (by omega)]; simp
  · rw [Array.getElem?_setIfInBounds_ne (Ne.symm e)]; simp only [if_neg e]; exact hk j hj
theorem One.new (w : World) (n : Nat) (t : TypeId) (z : Value) : One (w.alloc (.cells (madeCells #[z] n) t)) w.heap.size n t fun _ => z := by
  refine ⟨_, Blk.new _ _ _, size_madeCells _ _, fun j hj => ?_⟩
  rw [← Array.getElem?_toList, toList_madeCells_one]
  simp [hj]
theorem newRow_setOther {w : World} {g n : Nat} {A : Nat → Int × Int} (h : NewRow w g n A) (b i : Nat) (v : Value) (hne : b ≠ g) : NewRow (w.setCell ⟨b, i, none⟩ v) g n A := by
  obtain ⟨cs, hc, hs, hk⟩ := h
  exact ⟨cs, hc.setOther b i v hne, hs, hk⟩

/-- The old row, the new one, the key in its box. -/
structure St (w0 : World) (gO gH B n : Nat) (G : Nat → Int × Int) (e : Int × Int) (w : World) : Prop where
  old : NewRow w gO n G
  got : NewRow w gH (n + 1) (pushK G n e)
  key : Blk w B #[.int .i64 e.1, .int .u64 e.2] 30
  bel : Below B w0 w
theorem St.drewN {w0 : World} {gO gH B n : Nat} {G : Nat → Int × Int} {e : Int × Int} {w : World} (h : St w0 gO gH B n G e w) (m : Nat) : St w0 gO gH B n G e (w.drewN m) :=
  ⟨h.old.drewN m, h.got.drewN m, h.key.drewN m, below_drewN h.bel m⟩
theorem St.drew {w0 : World} {gO gH B n : Nat} {G : Nat → Int × Int} {e : Int × Int} {w : World} (h : St w0 gO gH B n G e w) : St w0 gO gH B n G e w.drew :=
  ⟨h.old.drew, h.got.drew, blk_drew h.key, h.bel.drew⟩
theorem St.alloc {w0 : World} {gO gH B n : Nat} {G : Nat → Int × Int} {e : Int × Int} {w : World} (h : St w0 gO gH B n G e w) (o : Obj) : St w0 gO gH B n G e (w.alloc o) :=
  ⟨h.old.alloc o, h.got.alloc o, h.key.alloc o, h.bel.alloc (by have := h.key.lt; omega) o⟩
theorem St.below {w0 : World} {gO gH B n : Nat} {G : Nat → Int × Int} {e : Int × Int} {w w' : World} (h : St w0 gO gH B n G e w) (hb : Below w.heap.size w w') : St w0 gO gH B n G e w' :=
  ⟨h.old.below hb, h.got.below hb, h.key.below hb h.key.lt, h.bel.trans (hb.mono (by have := h.key.lt; omega))⟩
theorem St.set {w0 : World} {gO gH B n : Nat} {G : Nat → Int × Int} {e : Int × Int} {w : World} (h : St w0 gO gH B n G e w) (b i : Nat) (v : Value) (h1 : b ≠ gO) (h2 : b ≠ gH) (h3 : B < b) : St w0 gO gH B n G e (w.setCell ⟨b, i, none⟩ v) :=
  ⟨newRow_setOther h.old b i v h1, newRow_setOther h.got b i v h2, h.key.setOther b i v (by omega), h.bel.setCell (p := ⟨b, i, none⟩) (by show B ≤ b; omega) v⟩

theorem One.congr {w : World} {g n : Nat} {t : TypeId} {V V' : Nat → Value} (h : One w g n t V) (e : ∀ j, j < n → V j = V' j) : One w g n t V' := by
  obtain ⟨cs, hc, hs, hk⟩ := h
  exact ⟨cs, hc, hs, fun j hj => by rw [hk j hj, e j hj]⟩

/-- The path's row when s of its slots, from the last on, have been filled. -/
def pv (d n s : Nat) : Nat → Value := fun j => if d < j + s then .int .i64 (anc (d - j) n : Nat) else .int .i64 0
theorem pv_put {d n s q j : Nat} (h : s + q = d) : (if j = q then Value.int .i64 (anc s n : Nat) else pv d n s j) = pv d n (s + 1) j := by
  unfold pv
  by_cases e : j = q
  · subst e; rw [if_pos rfl, if_pos (by omega), show d - j = s by omega]
  · rw [if_neg e]
    by_cases h1 : d < j + s
    · rw [if_pos h1, if_pos (by omega)]
    · rw [if_neg h1, if_neg (by omega)]

theorem first_such (f : Nat → Bool) : ∀ d, ∃ c, c ≤ d ∧ (∀ j, j < c → f j = false) ∧ (c = d ∨ f c = true) := by
  intro d
  induction d with
  | zero => exact ⟨0, Nat.le_refl _, fun j hj => absurd hj (Nat.not_lt_zero _), .inl rfl⟩
  | succ d ih =>
    obtain ⟨c, h1, h2, h3⟩ := ih
    rcases h3 with rfl | h3
    · cases hf : f c
      · refine ⟨c + 1, Nat.le_refl _, fun j hj => ?_, .inl rfl⟩
        by_cases e : j = c
        · rw [e]; exact hf
        · exact h2 j (by omega)
      · exact ⟨c, by omega, h2, .inr hf⟩
    · exact ⟨c, by omega, h2, .inr h3⟩

set_option maxRecDepth 10000 in
set_option maxHeartbeats 8000000 in
theorem walkIn (a0 : Option Addr) (n c0 : Nat) (K : Nat → Int × Int) (e : Int × Int) (w : World) (hn : n ≤ 65536) (hr : Row2 w a0 n K) :
    Calls Try.prog 4 #[.slice a0 n c0, .agg #[.int .i64 e.1, .int .u64 e.2]] w fun e w' => e = .returned (.bool true) ∧ Below w.heap.size w w' := by
  have hz := fun w => zzBytes15 a0 n c0 e.1 e.2 w (by unfold maxLen; omega)
  go_enter Try.func4, Try.ntmps4
  go_wp2_with fail
  refine (hz _).mono ?_
  rintro e' w1 ⟨r, rfl, hb1, hr1⟩
  obtain rfl := hr1 hn
  clear hr1 hz
  have hkey := (Blk.new w #[.int .i64 e.1, .int .u64 e.2] 30).below hb1 (by simp)
  have hbel1 : Below w.heap.size w w1 := ((Below.refl _ _).alloc (Nat.le_refl _) _).trans (hb1.mono (by simp))
  have hr1 := Row2.later hr hbel1
  go_wp2_with fail
  refine (build_any a0 n c0 K _ hr1 hn).mono ?_
  rintro e' w2 ⟨rfl, hq2, hb2⟩
  have hkey2 := hkey.below hb2 hkey.lt
  have hbel2 : Below w.heap.size w w2 := hbel1.trans (hb2.mono hbel1.size)
  go_wp2_with fail
  refine (read_any _ n _ _ hq2 (by omega)).mono ?_
  rintro e' w3 ⟨rfl, ⟨cs, hB, hs, hk⟩, hb3⟩
  have hq3 := q_below hq2 hb3
  have hN3 : NewRow w3 w2.heap.size n (builtK K n) := ⟨cs, hB, hs, hk⟩
  have hkey3 := hkey2.below hb3 hkey2.lt
  have hbel3 : Below w.heap.size w w3 := hbel2.trans (hb3.mono hbel2.size)
  have k0 := hkey3.cellOf (i := 0) (v := .int .i64 e.1) rfl
  have k1 := hkey3.cellOf (i := 1) (v := .int .u64 e.2) rfl
  have HQ : Hid (Q _ _ _ _) := hq3
  have hB1 : w.heap.size < w1.heap.size := hkey.lt
  clear hq2 hq3 hB hs hk hb1 hb2 hb3 hkey hkey2 hr hr1
  go_wp2_with fail
  refine (zpush_any _ n _ e _ HQ.out hn).mono ?_
  rintro e' w4 ⟨rfl, hq4, hb4, hkp⟩
  have hN4 := hN3.keeps hkp
  have hkey4 := hkey3.below hb4 hB1
  have hbel4 : Below w.heap.size w w4 := hbel3.trans (hb4.mono (by omega))
  clear k0 k1 HQ hN3 hkey3 hb4 hkp
  go_wp2_with fail
  refine (read_any _ (n + 1) _ _ hq4 (by omega)).mono ?_
  rintro e' w5 ⟨rfl, ⟨cs, hB, hs, hk⟩, hb5⟩
  have hst : St w w2.heap.size w4.heap.size w.heap.size n (builtK K n) e w5 :=
    ⟨hN4.below hb5, ⟨cs, hB, hs, hk⟩, hkey4.below hb5 hkey4.lt, hbel4.trans (hb5.mono hbel4.size)⟩
  have HS : Hid (St _ _ _ _ _ _ _ _) := hst
  have HH : Hid (HeapTo (builtK K n) n) := built_heap K n
  have hgO := hst.old.lt
  have hgH := hst.got.lt
  clear hst hN4 hkey4 hbel1 hbel2 hbel3 hbel4 hq4 hB hs hk hb5 hB1
  generalize builtK K n = G at *
  generalize w2.heap.size = gO at *
  generalize w4.heap.size = gH at *
  generalize w1.heap.size = bq at *
  go_wp2_with fail
  go_loop [9, 10] (fun dd i => ∃ t : Nat, dd = .int .i64 t ∧ i = .int .i64 (anc t n : Nat) ∧ t + anc t n ≤ n ∧ Hid (∀ s, s < t → 0 < anc s n)) (fun _ i => (intOf i).toNat)
  case atStart => exact ⟨0, rfl, rfl, by simp [anc], fun s hs => absurd hs (Nat.not_lt_zero _)⟩
  case round =>
    obtain ⟨d, rfl, rfl, hdn, HD⟩ := hrel
    by_cases hpos : 0 < anc d n
    · have hlt := par_lt hpos
      have HE : Hid (∀ s, s < d + 1 → 0 < anc s n) := fun s hs => by
        by_cases e : s = d
        · rw [e]; exact hpos
        · exact HD.out s (by omega)
      have HP : Hid (anc (d + 1) n = (anc d n - 1) / 2) := rfl
      clear HD hlt
      generalize hx : anc d n = x at *
      clear hx
      go_wp2_with fail
      go_round
      case rel => exact ⟨d + 1, by go_num, by rw [HP.out]; go_num, by rw [HP.out]; omega, HE⟩
      case measure => simp [intOf]; omega
    · have hd0 : anc d n = 0 := by omega
      have HD0 : Hid (anc d n = 0) := hd0
      rw [hd0]
      have hdn' : d ≤ n := by omega
      have hmk : ∀ w, (Instr.makeSlice 34 (.int .i64 ((d : Int) + 1)) (.int .i64 ((d : Int) + 1))).run Try.prog w = .ok (.slice (some ⟨w.heap.size, 0, none⟩) (d + 1) (d + 1)) (w.alloc (.cells (madeCells #[.int .i64 0] (d + 1)) 3)) := fun w => by
        have := run_make_row' (P := Try.prog) 34 3 (.int .i64 0) 8 Try.underlying34 info3 rfl .i64 .i64 (d + 1) (by omega) (by omega) w
        simpa using this
      clear hpos hd0 hdn
      go_wp2_with fail
      have hst1 := HS.out.alloc (.cells (madeCells #[.int .i64 0] (d + 1)) 3)
      have hone1 := One.new w5 (d + 1) 3 (.int .i64 0)
      have hkB := HS.out.key.lt
      have HI : Hid (St w gO gH w.heap.size n G e (w5.alloc (.cells (madeCells #[.int .i64 0] (d + 1)) 3)) ∧ One (w5.alloc (.cells (madeCells #[.int .i64 0] (d + 1)) 3)) w5.heap.size (d + 1) 3 (pv d n 0)) := ⟨hst1, hone1.congr fun j hj => by unfold pv; rw [if_neg (by omega)]⟩
      clear hst1 hone1 HS hmk
      generalize w5.alloc (.cells (madeCells #[.int .i64 0] (d + 1)) 3) = W6 at *
      generalize w5.heap.size = gP at *
      go_loopw [12, 13] (fun ix j wr => ∃ s q : Nat, s + q = d + 1 ∧ ix = .int .i64 (anc s n : Nat) ∧ j = .int .i64 ((q : Int) - 1) ∧ St w gO gH w.heap.size n G e wr ∧ One wr gP (d + 1) 3 (pv d n s)) (fun _ j _ => (intOf j + 1).toNat)
      case atStart => exact ⟨0, d + 1, by omega, rfl, by go_num, HI.out.1, HI.out.2⟩
      case round =>
        clear HI
        obtain ⟨s, q, hsq, rfl, rfl, hst, hone⟩ := hrel
        cases q with
        | succ q =>
          rw [show ((q + 1 : Nat) : Int) - 1 = (q : Int) from by omega]
          have c0 := hone.cell (show q < d + 1 by omega)
          have hf := hone.free q
          have hst2 := hst.set gP q (.int .i64 (anc s n : Nat)) (by omega) (by omega) hkB
          have hone2 := (hone.put (show q < d + 1 by omega) (.int .i64 (anc s n : Nat))).congr (V' := pv d n (s + 1)) (fun j hj => pv_put (by omega))
          have HI : Hid (St _ _ _ _ _ _ _ _ ∧ One _ _ _ _ _) := ⟨hst2, hone2⟩
          have hle := anc_le s n
          have HP : Hid (anc (s + 1) n = (anc s n - 1) / 2) := rfl
          clear hst hone hst2 hone2
          generalize pv d n s q = vv at *
          generalize anc s n = x at *
          have hqd : (q : Int) < (d : Int) + 1 := by omega
          by_cases hx : 0 < x
          · go_wp2_with fail
            go_roundw
            case rel => exact ⟨s + 1, q, by omega, by rw [HP.out]; go_num, by go_num, HI.out.1, HI.out.2⟩
            case measure => simp [intOf]
          · go_wp2_with fail
            go_roundw
            case rel => exact ⟨s + 1, q, by omega, by rw [HP.out]; go_num, by go_num, HI.out.1, HI.out.2⟩
            case measure => simp [intOf]
        | zero =>
          have hone2 := hone.congr (V' := fun j => .int .i64 (anc (d - j) n : Nat)) (fun j hj => by unfold pv; rw [if_pos (by omega)])
          rw [show ((0 : Nat) : Int) - 1 = -1 from by omega]
          have hmk : ∀ w, (Instr.makeSlice 35 (.int .i64 ((n : Int) + 1)) (.int .i64 ((n : Int) + 1))).run Try.prog w = .ok (.slice (some ⟨w.heap.size, 0, none⟩) (n + 1) (n + 1)) (w.alloc (.cells (madeCells #[.bool false] (n + 1)) 4)) := fun w => by
            have := run_make_row' (P := Try.prog) 35 4 (.bool false) 1 Try.underlying35 info4 rfl .i64 .i64 (n + 1) (by omega) (by omega) w
            simpa using this
          have hst1 := hst.alloc (.cells (madeCells #[.bool false] (n + 1)) 4)
          have hpath1 := hone2.alloc (.cells (madeCells #[.bool false] (n + 1)) 4)
          have hon1 := One.new wr (n + 1) 4 (.bool false)
          have hgP := hone.lt
          have hgO2 := hst.old.lt
          have hgH2 := hst.got.lt
          have hkB2 := hst.key.lt
          have HI : Hid (St _ _ _ _ _ _ _ _ ∧ One _ _ _ _ _ ∧ One _ _ _ _ _) := ⟨hst1, hpath1, hon1⟩
          clear hst hone hone2 hst1 hpath1 hon1 hgO hgH hkB
          generalize anc s n = ixv at *
          go_wp2_with fail
          clear hmk
          generalize wr.alloc (.cells (madeCells #[.bool false] (n + 1)) 4) = W7 at *
          generalize wr.heap.size = gT at *
          have hTP : gP < gT := by omega
          have hF0 : Hid (∀ k, (fun _ : Nat => false) k = false → ∀ t, t < 0 → anc (d - t) n ≠ k) := fun _ _ t ht => absurd ht (Nat.not_lt_zero _)
          go_loopw [15] (fun i wt => ∃ j : Nat, j ≤ d + 1 ∧ i = .int .i64 j ∧ St w gO gH w.heap.size n G e wt ∧ One wt gP (d + 1) 3 (fun j => .int .i64 (anc (d - j) n : Nat)) ∧ ∃ P : Nat → Bool, One wt gT (n + 1) 4 (fun k => .bool (P k)) ∧ Hid (∀ k, P k = false → ∀ t, t < j → anc (d - t) n ≠ k)) (fun i _ => d + 1 - (intOf i).toNat)
          case atStart => exact ⟨0, Nat.zero_le _, rfl, HI.out.1, HI.out.2.1, fun _ => false, HI.out.2.2, hF0⟩
          case round =>
            clear HI hF0
            obtain ⟨j, hj, rfl, hst, hpath, P, hon, HP⟩ := hrel
            by_cases hjd : j ≤ d
            · have hxn : anc (d - j) n < n + 1 := by have := anc_le (d - j) n; omega
              have c0 := hpath.cell (show j < d + 1 by omega)
              have t0 := hon.cell hxn
              have tf := hon.free (anc (d - j) n)
              have hst2 := hst.set gT (anc (d - j) n) (.bool true) (by omega) (by omega) hkB2
              have hpath2 := hpath.setOther gT (anc (d - j) n) (.bool true) (by omega)
              have hon2 := (hon.put hxn (.bool true)).congr (V' := fun k => .bool (if k = anc (d - j) n then true else P k)) (fun k _ => by by_cases e : k = anc (d - j) n <;> simp [e])
              have HP2 : Hid (∀ k, (if k = anc (d - j) n then true else P k) = false → ∀ t, t < j + 1 → anc (d - t) n ≠ k) := by
                intro k hk t ht e
                by_cases e1 : k = anc (d - j) n
                · rw [if_pos e1] at hk; cases hk
                · rw [if_neg e1] at hk
                  by_cases e2 : t = j
                  · rw [e2] at e; exact e1 e.symm
                  · exact HP.out k hk t (by omega) e
              have HI : Hid (St _ _ _ _ _ _ _ _ ∧ One _ _ _ _ _ ∧ One _ _ _ _ _) := ⟨hst2, hpath2, hon2⟩
              clear hst hpath hon hst2 hpath2 hon2 HP
              have hjd2 : (j : Int) ≤ (d : Int) := by omega
              have hjd3 : (j : Int) < (d : Int) + 1 := by omega
              generalize P (anc (d - j) n) = pv0 at *
              have HE : Hid (St _ _ _ _ _ _ _ _ ∧ One _ _ _ _ _ ∧ ∃ P : Nat → Bool, One _ gT (n + 1) 4 (fun k => .bool (P k)) ∧ Hid (∀ k, P k = false → ∀ t, t < j + 1 → anc (d - t) n ≠ k)) := ⟨HI.out.1, HI.out.2.1, _, HI.out.2.2, HP2⟩
              clear HI HP2
              generalize anc (d - j) n = x at *
              have hx2 : (x : Int) < (n : Int) + 1 := by omega
              go_wp2_with fail
              go_roundw
              case rel => exact ⟨j + 1, by omega, by go_num, HE.out.1, HE.out.2.1, HE.out.2.2⟩
              case measure => simp [intOf]; omega
            · obtain rfl : j = d + 1 := by omega
              obtain ⟨c9, hc9, hc91, hc92⟩ := first_such (fun j => kLess e (G (anc (d - j) n))) d
              have HOff : Hid (∀ k, k < n → P k = false → pushK G n e k = G k) := fun k hk hp =>
                (push_path e HH.out HD.out HD0.out hc9 hc91 hc92).1 k hk (fun t ht => by have := HP.out k hp (d - t) (by omega); rwa [show d - (d - t) = t by omega] at this)
              have HI : Hid (St _ _ _ _ _ _ _ _ ∧ One _ _ _ _ _ ∧ One _ _ _ _ _) := ⟨hst, hpath, hon⟩
              clear hst hpath hon HP hc9 hc91 hc92 hjd
              go_wp2_with fail
              go_loopw [16] (fun i wx => ∃ k : Nat, k ≤ n ∧ i = .int .i64 k ∧ St w gO gH w.heap.size n G e wx ∧ One wx gP (d + 1) 3 (fun j => .int .i64 (anc (d - j) n : Nat)) ∧ One wx gT (n + 1) 4 (fun k => .bool (P k))) (fun i _ => n - (intOf i).toNat)
              case atStart => exact ⟨0, Nat.zero_le _, rfl, HI.out.1, HI.out.2.1, HI.out.2.2⟩
              case round =>
                clear HI
                obtain ⟨k, hk, rfl, hst, hpath, hon⟩ := hrel
                have HI : Hid (St _ _ _ _ _ _ _ _ ∧ One _ _ _ _ _ ∧ One _ _ _ _ _) := ⟨hst, hpath, hon⟩
                by_cases hkn : k < n
                · have t0 := hon.cell (show k < n + 1 by omega)
                  have o0 := hst.old.c0 hkn
                  have o1 := hst.old.c1 hkn
                  have g0 := hst.got.c0 (show k < n + 1 by omega)
                  have g1 := hst.got.c1 (show k < n + 1 by omega)
                  have hk2 : (k : Int) < (n : Int) := by omega
                  have hk3 : (k : Int) < (n : Int) + 1 := by omega
                  clear hst hpath hon
                  cases hP : P k
                  · rw [HOff.out k hkn hP] at g0 g1
                    rw [hP] at t0
                    generalize G k = kk at *
                    go_wp2_with fail
                    go_quiet (fail)
                    go_wp2_with fail
                    go_roundw
                    case rel => exact ⟨k + 1, by omega, by go_num, HI.out.1.drewN _, HI.out.2.1.drewN _, HI.out.2.2.drewN _⟩
                    case measure => simp [intOf]; omega
                  · rw [hP] at t0
                    go_wp2_with fail
                    go_quiet (fail)
                    go_wp2_with fail
                    go_roundw
                    case rel => exact ⟨k + 1, by omega, by go_num, HI.out.1.drewN _, HI.out.2.1.drewN _, HI.out.2.2.drewN _⟩
                    case measure => simp [intOf]; omega
                · have HI2 : Hid (St _ _ _ _ _ _ _ _ ∧ One _ _ _ _ _) := ⟨hst, hpath⟩
                  have anlt : ∀ t, 0 < t → t ≤ d → anc t n < n := fun t h0 h1 => anc_strict (i := n) (a := 0) h0 (HD.out 0 (by omega))
                  clear hst hpath hon HI HOff
                  go_upto_block 8 with fail
                  go_cut [17] (fun cc wc => ∃ c : Nat, c ≤ d ∧ cc = .int .i64 c ∧ St w gO gH w.heap.size n G e wc ∧ One wc gP (d + 1) 3 (fun q9 => .int .i64 (anc (d - q9) n : Nat)) ∧ Hid ((∀ q, q < c → pushK G n e (anc (d - q) n) = G (anc (d - q) n)) ∧ pushK G n e (anc (d - c) n) = e ∧ (∀ q, c < q → q ≤ d → pushK G n e (anc (d - q) n) = G (anc (d - (q - 1)) n))))
                  case first =>
                    go_wp2_with fail
                    go_loopw [17, 18] (fun cc i wy => ∃ j c : Nat, j ≤ d ∧ i = .int .i64 j ∧ cc = .int .i64 c ∧ Hid (c = d) ∧ St w gO gH w.heap.size n G e wy ∧ One wy gP (d + 1) 3 (fun j => .int .i64 (anc (d - j) n : Nat)) ∧ Hid (∀ q, q < j → kLess e (G (anc (d - q) n)) = false)) (fun _ i _ => d - (intOf i).toNat)
                    case atStart => exact ⟨0, d, Nat.zero_le _, rfl, rfl, rfl, HI2.out.1, HI2.out.2, fun q hq => absurd hq (Nat.not_lt_zero _)⟩
                    case round =>
                      clear HI2
                      obtain ⟨j, c, hj, rfl, rfl, HCD, hst, hpath, HF⟩ := hrel
                      by_cases hjd : j < d
                      · have c0 := hpath.cell (show j < d + 1 by omega)
                        have hxn : anc (d - j) n < n := anlt (d - j) (by omega) (by omega)
                        have o0 := hst.old.c0 hxn
                        have o1 := hst.old.c1 hxn
                        have k0 := hst.key.cellOf (i := 0) (v := .int .i64 e.1) rfl
                        have k1 := hst.key.cellOf (i := 1) (v := .int .u64 e.2) rfl
                        have hjd2 : (j : Int) < (d : Int) := by omega
                        have hjd3 : (j : Int) < (d : Int) + 1 := by omega
                        have HI : Hid (St _ _ _ _ _ _ _ _ ∧ One _ _ _ _ _) := ⟨hst, hpath⟩
                        obtain ⟨x, hx⟩ : ∃ x, x = anc (d - j) n := ⟨_, rfl⟩
                        rw [← hx] at c0 hxn o0 o1
                        have hx2 : (x : Int) < (n : Int) := by omega
                        have HX : Hid (x = anc (d - j) n) := hx
                        clear hst hpath hx
                        cases hl : kLess e (G x)
                        · have HF2 : Hid (∀ q, q < j + 1 → kLess e (G (anc (d - q) n)) = false) := fun q hq => by
                            by_cases eq : q = j
                            · rw [eq, ← HX.out]; exact hl
                            · exact HF.out q (by omega)
                          go_wp2_with fail
                          go_region_with (go_at_call 13; refine (evLess_below e (G x) _).mono ?_; rintro e' w3 ⟨rfl, hb3⟩)
                          all_goals
                            have hst2 := HI.out.1.drew.below hb3
                            have hpath2 := HI.out.2.drew.below hb3
                            have HI2 : Hid (St _ _ _ _ _ _ _ _ ∧ One _ _ _ _ _) := ⟨hst2, hpath2⟩
                            clear hst2 hpath2 HI hb3 c0 o0 o1 k0 k1
                            go_wp2_with fail
                            go_roundw
                            case rel => first | exact ⟨j + 1, c, by omega, by go_num, rfl, HCD, HI2.out.1, HI2.out.2, HF2⟩ | ((repeat apply Exists.intro); exact ⟨⟨j + 1, c, by omega, by go_num, rfl, HCD, HI2.out.1, HI2.out.2, HF2⟩, rfl⟩)
                            case measure => simp [intOf]; omega
                        · go_wp2_with fail
                          go_region_with (go_at_call 13; refine (evLess_below e (G x) _).mono ?_; rintro e' w3 ⟨rfl, hb3⟩)
                          all_goals
                            have hst2 := HI.out.1.drew.below hb3
                            have hpath2 := HI.out.2.drew.below hb3
                            have HO : Hid ((∀ q, q < j → pushK G n e (anc (d - q) n) = G (anc (d - q) n)) ∧ pushK G n e (anc (d - j) n) = e ∧ (∀ q, j < q → q ≤ d → pushK G n e (anc (d - q) n) = G (anc (d - (q - 1)) n))) :=
                              (push_path e HH.out HD.out HD0.out hj HF.out (.inr (by rw [← HX.out]; exact hl))).2
                            have HI3 : Hid (St _ _ _ _ _ _ _ _ ∧ One _ _ _ _ _) := ⟨hst2, hpath2⟩
                            clear hst2 hpath2 hb3 c0 o0 o1 k0 k1 HF HX HI
                            go_wp2_with fail
                            go_meet
                            case rel => exact ⟨j, hj, rfl, HI3.out.1, HI3.out.2, HO⟩
                      · obtain rfl : d = j := by omega
                        have HO : Hid ((∀ q, q < c → pushK G n e (anc (d - q) n) = G (anc (d - q) n)) ∧ pushK G n e (anc (d - c) n) = e ∧ (∀ q, c < q → q ≤ d → pushK G n e (anc (d - q) n) = G (anc (d - (q - 1)) n))) :=
                          (push_path e HH.out HD.out HD0.out (Nat.le_of_eq HCD.out) (fun q hq => HF.out q (by have := HCD.out; omega)) (.inl HCD.out)).2
                        have hcd : c ≤ d := Nat.le_of_eq HCD.out
                        have HI : Hid (St _ _ _ _ _ _ _ _ ∧ One _ _ _ _ _) := ⟨hst, hpath⟩
                        clear hst hpath HF hjd HCD
                        go_wp2_with fail
                        go_meet
                        case rel => exact ⟨c, hcd, rfl, HI.out.1, HI.out.2, HO⟩
                  case rest =>
                    obtain ⟨c, hcd, rfl, hst, hpath, HO⟩ := hcut
                    have HI : Hid (St _ _ _ _ _ _ _ _ ∧ One _ _ _ _ _) := ⟨hst, hpath⟩
                    clear hst hpath HI2
                    go_wp2_with fail
                    go_loopw [19] (fun i wz => ∃ jj : Nat, jj ≤ d + 1 ∧ i = .int .i64 jj ∧ St w gO gH w.heap.size n G e wz ∧ One wz gP (d + 1) 3 (fun q9 => .int .i64 (anc (d - q9) n : Nat))) (fun i _ => d + 1 - (intOf i).toNat)
                    case atStart => exact ⟨0, Nat.zero_le _, rfl, HI.out.1, HI.out.2⟩
                    case round =>
                      clear HI
                      obtain ⟨jj, hj, rfl, hst, hpath⟩ := hrel
                      have HI : Hid (St _ _ _ _ _ _ _ _ ∧ One _ _ _ _ _) := ⟨hst, hpath⟩
                      have hlP := hpath.lt
                      have hlO := hst.old.lt
                      have hlH := hst.got.lt
                      have hlB := hst.key.lt
                      by_cases hjd : jj ≤ d
                      · have c0 := hpath.cell (show jj < d + 1 by omega)
                        have hxn : anc (d - jj) n < n + 1 := by have := anc_le (d - jj) n; omega
                        have g0 := hst.got.c0 hxn
                        have g1 := hst.got.c1 hxn
                        have hjd2 : (jj : Int) ≤ (d : Int) := by omega
                        have hjd3 : (jj : Int) < (d : Int) + 1 := by omega
                        by_cases hjc : jj < c
                        · have hxn2 : anc (d - jj) n < n := anlt (d - jj) (by omega) (by omega)
                          have o0 := hst.old.c0 hxn2
                          have o1 := hst.old.c1 hxn2
                          rw [HO.out.1 jj hjc] at g0 g1
                          generalize anc (d - jj) n = x at *
                          generalize G x = kk at *
                          have hx1 : (x : Int) < (n : Int) := by omega
                          have hx2 : (x : Int) < (n : Int) + 1 := by omega
                          have hjc2 : (jj : Int) < (c : Int) := by omega
                          clear hst hpath
                          go_wp2_with fail
                          go_quiet (fail)
                          go_wp2_with fail
                          go_roundw
                          case rel => first | exact ⟨jj + 1, by omega, by go_num, (HI.out.1.alloc _).drewN _, (HI.out.2.alloc _).drewN _⟩ | ((repeat apply Exists.intro); exact ⟨⟨jj + 1, by omega, by go_num, (HI.out.1.alloc _).drewN _, (HI.out.2.alloc _).drewN _⟩, rfl⟩)
                          case measure => simp [intOf]; omega
                        · by_cases hje : jj = c
                          · have k0 := hst.key.cellOf (i := 0) (v := .int .i64 e.1) rfl
                            have k1 := hst.key.cellOf (i := 1) (v := .int .u64 e.2) rfl
                            have HJ : Hid (jj = c) := hje
                            rw [hje, HO.out.2.1] at g0 g1
                            rw [hje] at hxn
                            rw [show anc (d - jj) n = anc (d - c) n from by rw [hje]] at c0
                            have hje2 : ((jj : Int) == (c : Int)) = true := by rw [beq_iff_eq]; omega
                            clear hje
                            clear hst hpath
                            generalize anc (d - c) n = x at *
                            have hx2 : (x : Int) < (n : Int) + 1 := by omega
                            go_wp2_with fail
                            go_quiet (fail)
                            go_wp2_with fail
                            go_roundw
                            case rel => first | exact ⟨jj + 1, by omega, by go_num, (HI.out.1.alloc _).drewN _, (HI.out.2.alloc _).drewN _⟩ | ((repeat apply Exists.intro); exact ⟨⟨jj + 1, by omega, by go_num, (HI.out.1.alloc _).drewN _, (HI.out.2.alloc _).drewN _⟩, rfl⟩)
                            case measure => simp [intOf]; omega
                          · obtain ⟨q, rfl⟩ : ∃ q, jj = q + 1 := ⟨jj - 1, by omega⟩
                            have hqc := HO.out.2.2 (q + 1) (by omega) (by omega)
                            rw [show q + 1 - 1 = q from rfl] at hqc
                            rw [hqc] at g0 g1
                            have c1 := hpath.cell (show q < d + 1 by omega)
                            have hyn : anc (d - q) n < n := anlt (d - q) (by omega) (by omega)
                            have o0 := hst.old.c0 hyn
                            have o1 := hst.old.c1 hyn
                            clear hqc
                            generalize anc (d - (q + 1)) n = x at *
                            generalize anc (d - q) n = y at *
                            generalize G y = kk at *
                            have hx2 : (x : Int) < (n : Int) + 1 := by omega
                            have hy2 : (y : Int) < (n : Int) := by omega
                            have hq2 : (q : Int) < (d : Int) + 1 := by omega
                            have hq3 : ¬ (q : Int) + 1 < (c : Int) := by omega
                            have hq4 : ((q : Int) + 1 == (c : Int)) = false := by rw [beq_eq_false_iff_ne]; omega
                            clear hst hpath
                            go_wp2_with fail
                            go_quiet (fail)
                            go_wp2_with fail
                            go_roundw
                            case rel => first | exact ⟨q + 1 + 1, by omega, by go_num, (HI.out.1.alloc _).drewN _, (HI.out.2.alloc _).drewN _⟩ | ((repeat apply Exists.intro); exact ⟨⟨q + 1 + 1, by omega, by go_num, (HI.out.1.alloc _).drewN _, (HI.out.2.alloc _).drewN _⟩, rfl⟩)
                            case measure => simp [intOf]; omega
                      · go_wp2_with fail
                        go_ret
                        exact ⟨rfl, hst.bel⟩

set_option maxHeartbeats 400000 in
theorem walkEarly (a0 : Option Addr) (l0 c0 : Nat) (e : Int × Int) (w : World) (h0 : l0 ≤ maxLen) (hbig : 65536 < l0) :
    Calls Try.prog 4 #[.slice a0 l0 c0, .agg #[.int .i64 e.1, .int .u64 e.2]] w fun e w' => e = .returned (.bool true) ∧ Below w.heap.size w w' := by
  have hz := fun w => zzBytes15 a0 l0 c0 e.1 e.2 w h0
  unfold maxLen at h0
  go_enter Try.func4, Try.ntmps4
  go_wp2_with fail
  refine (hz _).mono ?_
  rintro e' w1 ⟨r, rfl, hb1, -⟩
  have hbel1 : Below w.heap.size w w1 := ((Below.refl _ _).alloc (Nat.le_refl _) _).trans (hb1.mono (by simp))
  clear hz hb1
  cases r
  · go_wp2_with fail
    go_ret
    exact ⟨rfl, hbel1⟩
  · go_wp2_with fail
    go_ret
    exact ⟨rfl, hbel1⟩

theorem walk (a0 : Option Addr) (len0 cap0 : Nat) (z0 : Nat → Int × Int) (e1 : Int × Int) (w : World) (w0 : len0 ≤ maxLen ∧ Row2 w a0 len0 z0) :
    Calls Try.prog 4 #[.slice a0 len0 cap0, .agg #[.int .i64 e1.1, .int .u64 e1.2]] w fun e w' => e = .returned (.bool true) ∧ Below w.heap.size w w' := by
  by_cases hbig : 65536 < len0
  · exact walkEarly a0 len0 cap0 e1 w w0.1 hbig
  · exact walkIn a0 len0 cap0 z0 e1 w (by omega) w0.2

set_option maxRecDepth 100000 in
theorem lifted (os : Os) (started : os.Started) (H : Type) (enc : TypeId × Value → H) :
    ReturnsInHanded {} Try.checked os 4 .any (Rows.fnPushSiftsAlongPathSpec.pre6 enc Try.prog Try.f4 Rows.fnPushSiftsAlongPathRow.domain false) (Rows.fnPushSiftsAlongPathSpec.post enc Try.prog Try.f4 false true false false) := by
  refine returnsInHanded_of_change (C := Try.checked) own started (by kernel_rfl) Try.func4
    (ChangeSpec.witness6 (enc := enc) (C := Try.checked) false ⟨#[], #[.slice none 0 0, .agg #[.int .i64 0, .int .u64 0]], []⟩ 8 (by kernel_rfl) (by kernel_rfl) (by kernel_rfl) (by kernel_rfl)) ?_
  intro W base args ds gs before hval0 hW hcnd _
  have hval : ∀ (j : Nat) t v, Try.f4.params[j]? = some t → args[j]? = some v → Value.okWide Try.prog W .any base t v := hval0
  have hW' := hW
  obtain ⟨p, q, hA0, hV, rfl, hfz, hnd⟩ := hW
  have hA : DataW.TrodAll enc Try.prog W 0 (fun _ => true) true Try.f4.params.toList args.toList ds p := hA0
  rw [Try.params4] at hA hval
  obtain ⟨v0, vs0, d0, ds0, p0, q0, hargs, rfl, rfl, h0, r0⟩ := trodAll_cons hA
  obtain ⟨v1, vs1, d1, ds1, p1, q1, rfl, rfl, rfl, h1, r1⟩ := trodAll_cons r0
  obtain ⟨rfl, rfl, rfl⟩ := trodAll_nil r1
  obtain rfl : args = #[v0, v1] := by cases args; simp_all
  obtain ⟨rfl, rfl⟩ := trodVars_none hV
  obtain ⟨a0, len0, cap0, rfl⟩ := okWide_slice Try.underlying22 (hval 0 22 v0 rfl rfl)
  have k0 := h0
  have lt0 : ∀ x ∈ p0, x.block < W.heap.size := by obtain ⟨m, hm⟩ := k0; exact DataW.trod_lt m _ _ _ hm
  obtain ⟨z0, w0⟩ : ∃ f : Nat → Int × Int, len0 ≤ maxLen ∧ Row2 W a0 len0 f := by obtain ⟨fuel, hf⟩ := h0; exact row_keys hf
  have k1 := h1
  have lt1 : ∀ x ∈ p1, x.block < W.heap.size := by obtain ⟨m, hm⟩ := k1; exact DataW.trod_lt m _ _ _ hm
  obtain ⟨e1, rfl⟩ : ∃ e : Int × Int, v1 = .agg #[.int .i64 e.1, .int .u64 e.2] := by
    obtain ⟨c0, c1, y0, y1, m, rfl, _, _, hy0, hy1⟩ := open_agg2 Try.underlying30 (by kernel_rfl) (by kernel_rfl) (hval 1 30 v1 rfl rfl) h1
    obtain ⟨n0, q0, _, _⟩ := DataW.trod_int Try.underlying2 hy0
    obtain ⟨n1, q1, _, _⟩ := DataW.trod_int Try.underlying28 hy1
    simp at q0 q1
    subst q0 q1
    exact ⟨(n0, n1), rfl⟩
  clear hA0 hval0
  refine (walk a0 len0 cap0 z0 e1 W w0).mono fun e W' ⟨he, bel⟩ => ?_
  subst he
  exact ⟨_, rfl, _, _, _, [], _, [], hW', trodAll_mk1 (shut_bool Try.underlying4 _), (trodAll_cons_mk (Below.trod laidOut (by kernel_rfl) (of_decide_eq_true (by kernel_rfl)) k0 bel lt0) (trodAll_cons_mk (Below.trod laidOut (by kernel_rfl) (of_decide_eq_true (by kernel_rfl)) k1 bel lt1) trodAll_mk0)), rfl, bel.frame _, fun h => by cases h⟩

theorem over : Rows.fnPushSiftsAlongPathRow.holds Try.pinned (OpenSpec.ofChange Rows.fnPushSiftsAlongPathSpec) :=
  OpenClaim.holds_of_wide 4 Try.f4 rfl rfl rfl rfl rfl rfl rfl ⟨rfl, rfl, rfl, rfl, rfl⟩ rfl rfl rfl rfl rfl (by kernel_rfl) Try.func4 (by kernel_rfl)
    (of_decide_eq_true (by kernel_rfl)) (by unfold Func.isWrapper; first | (rw [if_pos (by decide +kernel)]; kernel_rfl) | (rw [if_neg (by decide +kernel)]; exact ⟨rfl, rfl⟩))
    (fun os started H enc _ => lifted os started H enc)

/-- The statement. -/
theorem proved : Rows.FnPushSiftsAlongPathSaid :=
  over
#print axioms proved
end Go.Proofs.Qxb6612683a.fnPushSiftsAlongPath
