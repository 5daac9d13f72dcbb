/-
  FnInterruptCooperativeMarks: the walk and the row.
-/
import Derived.Test.Qxb6612683aIntr
import Derived.ProofKit
import Derived.OpenShut
import Derived.ShutString
import Derived.ChangeOld
import Derived.Below
namespace Go.Proofs.Qxb6612683a.fnInterruptCooperativeMarks
open Go.ChangeShapes Go.WideShapes Go.ChangeAt Go.RowKit
set_option linter.unusedVariables false

theorem own : ownKnob Try.prog.godebug = none := by kernel_rfl


theorem walkEarly (ms st : Int) (u s t v ce du : Int) (w : World) (hce : 0 < ce) :
    Calls Try.prog 8 #[.int .i64 ms, .int .i64 st, .bool false, .bool true, .int .i64 u, .int .i64 s, .int .i64 t, .int .u64 v, .int .i64 ce, .int .i64 du] w fun e w' => e = .returned (.bool true) ∧ Below w.heap.size w w' := by
  go_enter Try.func8, Try.ntmps8
  go_wp2
  go_ret
  exact ⟨rfl, Below.refl _ _⟩

theorem sim_cells (ms st : Int) : (simCs false ms st 0 0)[7]? = some (.bool false) ∧ (simCs false ms st 0 0)[30]? = some (.int .i64 st) ∧ (simCs false ms st 0 0)[28]? = some (.string ⟨#[]⟩) ∧
    (simCs false ms st 0 0)[48]? = some (.int .i64 0) ∧ (simCs false ms st 0 0)[23]? = some (.int .u64 0) ∧ (simCs false ms st 0 0)[22]? = some (.slice none 0 0) := ⟨rfl, rfl, rfl, rfl, rfl, rfl⟩

set_option maxHeartbeats 2000000 in
theorem walkFrom (ms st : Int) (p c : Bool) (u s t v ce du : Int) (w : World) (hp : (!p && c && decide (0 < ce)) = false) :
    Calls Try.prog 8 #[.int .i64 ms, .int .i64 st, .bool p, .bool c, .int .i64 u, .int .i64 s, .int .i64 t, .int .u64 v, .int .i64 ce, .int .i64 du] w fun e w' => e = .returned (.bool true) ∧ Below w.heap.size w w' := by
  have hc : p = true ∨ c = false ∨ ce ≤ 0 := by
    cases p
    · cases c
      · exact .inr (.inl rfl)
      · simp at hp; exact .inr (.inr hp)
    · exact .inl rfl
  have HC : Hid (p = true ∨ c = false ∨ ce ≤ 0) := hc
  clear hc
  cases p
  · cases c
    · clear hp
      go_enter Try.func8, Try.ntmps8
      go_wp2_with fail
      refine (newSim_any _ _ _ _ _).mono ?_
      rintro e w1 ⟨rfl, rfl⟩
      have hs1 := Blk.new w (simCs false ms st 0 0) 88
      have hb1 : Below w.heap.size w (w.alloc (.cells (simCs false ms st 0 0) 88)) := (Below.refl _ _).alloc (Nat.le_refl _) _
      have hz1 : (w.alloc (.cells (simCs false ms st 0 0) 88)).heap.size = w.heap.size + 1 := by simp
      generalize w.alloc (.cells (simCs false ms st 0 0) 88) = W1 at *
      go_wp2_with fail
      refine (newG_any false false u s t v ce du W1).mono ?_
      rintro e w2 ⟨rfl, hg2, hb2⟩
      have hs2 := hs1.below hb2 hs1.lt
      have hbel2 : Below w.heap.size w w2 := hb1.trans (hb2.mono (by omega))
      have hbg : w.heap.size < W1.heap.size := by omega
      have HI : Hid (GS _ _ _ _ _ _ _ _ _ _ _ _ ∧ Blk _ _ _ _ ∧ Below _ _ _) := ⟨hg2, hs2, hbel2⟩
      clear hs1 hb1 hz1 hg2 hb2 hs2 hbel2
      generalize W1.heap.size = bo at *
      go_wp2_with fail
      go_loopw [23] (fun i wr => ∃ k : Nat, k ≤ 2 ∧ i = .int .i64 k ∧ ∃ p', GS wr bo (bo + 1) (bo + 1 + 1) p' false u s t v ce du ∧ Hid (p' = true ∨ false = false ∨ ce ≤ 0) ∧ Blk wr w.heap.size (simCs false ms st 0 0) 88 ∧ Below w.heap.size w wr) (fun i _ => 2 - (intOf i).toNat)
      case atStart => exact ⟨0, by omega, rfl, false, HI.out.1, (by first | exact Or.inl rfl | exact Or.inr (Or.inl rfl) | exact HC.out), HI.out.2.1, HI.out.2.2⟩
      case round =>
        clear HI HC
        obtain ⟨k, hk, rfl, p', hg, HP, hs, hbel⟩ := hrel
        by_cases hlt : k < 2
        · have hlt2 : (k : Int) < 2 := by omega
          have hcall := zinterrupt_coop hs (sim_cells ms st).1 hg (by omega) (by omega) (by omega) HP.out
          have HK : Hid (Calls _ _ _ _ _) := hcall
          clear hcall hs hg HP
          go_wp2_with fail
          refine HK.out.mono ?_
          rintro e w3 ⟨rfl, hg, hs, hb3⟩
          have hbel3 : Below w.heap.size w w3 := hbel.trans (hb3.mono (by omega))
          have HI : Hid (GS _ _ _ _ _ _ _ _ _ _ _ _ ∧ Blk _ _ _ _ ∧ Below _ _ _) := ⟨hg, hs, hbel3⟩
          have HG : Hid (Calls _ _ _ _ _) := gKept_any hg
          have c30 := hs.cellOf (sim_cells ms st).2.1
          have c28 := hs.cellOf (sim_cells ms st).2.2.1
          have c48 := hs.cellOf (sim_cells ms st).2.2.2.1
          have c23 := hs.cellOf (sim_cells ms st).2.2.2.2.1
          have c22 := hs.cellOf (sim_cells ms st).2.2.2.2.2
          clear hg hs hb3 hbel3 HK hbel
          go_wp2_with fail
          refine HG.out.mono ?_
          rintro e w4 ⟨rfl, hw4⟩
          subst hw4
          clear HG
          go_wp2_with fail
          refine (simSteps_any _ _ _ c30).mono ?_
          rintro e w5 ⟨rfl, hw5⟩
          subst hw5
          go_wp2_with fail
          refine (simReason_any _ _ _ c28).mono ?_
          rintro e w5 ⟨rfl, hw5⟩
          subst hw5
          go_wp2_with fail
          refine (simPreemptions_any _ _ _ c48).mono ?_
          rintro e w5 ⟨rfl, hw5⟩
          subst hw5
          go_wp2_with fail
          refine (simSeq_any _ _ _ c23).mono ?_
          rintro e w5 ⟨rfl, hw5⟩
          subst hw5
          go_wp2_with fail
          refine (simEventsLen_any _ _ c22).mono ?_
          rintro e w5 ⟨rfl, hw5⟩
          subst hw5
          go_wp2_with fail
          go_roundw
          case rel => exact ⟨k + 1, by omega, by go_num, true, HI.out.1, .inl rfl, HI.out.2.1, HI.out.2.2⟩
          case measure => simp [intOf]; omega
        · go_wp2_with fail
          go_ret
          exact ⟨rfl, hbel⟩
    · have hce : ¬ 0 < ce := by simpa using hp
      clear hp
      go_enter Try.func8, Try.ntmps8
      go_wp2_with fail
      refine (newSim_any _ _ _ _ _).mono ?_
      rintro e w1 ⟨rfl, rfl⟩
      have hs1 := Blk.new w (simCs false ms st 0 0) 88
      have hb1 : Below w.heap.size w (w.alloc (.cells (simCs false ms st 0 0) 88)) := (Below.refl _ _).alloc (Nat.le_refl _) _
      have hz1 : (w.alloc (.cells (simCs false ms st 0 0) 88)).heap.size = w.heap.size + 1 := by simp
      generalize w.alloc (.cells (simCs false ms st 0 0) 88) = W1 at *
      go_wp2_with fail
      refine (newG_any false true u s t v ce du W1).mono ?_
      rintro e w2 ⟨rfl, hg2, hb2⟩
      have hs2 := hs1.below hb2 hs1.lt
      have hbel2 : Below w.heap.size w w2 := hb1.trans (hb2.mono (by omega))
      have hbg : w.heap.size < W1.heap.size := by omega
      have HI : Hid (GS _ _ _ _ _ _ _ _ _ _ _ _ ∧ Blk _ _ _ _ ∧ Below _ _ _) := ⟨hg2, hs2, hbel2⟩
      clear hs1 hb1 hz1 hg2 hb2 hs2 hbel2
      generalize W1.heap.size = bo at *
      go_wp2_with fail
      go_loopw [23] (fun i wr => ∃ k : Nat, k ≤ 2 ∧ i = .int .i64 k ∧ ∃ p', GS wr bo (bo + 1) (bo + 1 + 1) p' true u s t v ce du ∧ Hid (p' = true ∨ true = false ∨ ce ≤ 0) ∧ Blk wr w.heap.size (simCs false ms st 0 0) 88 ∧ Below w.heap.size w wr) (fun i _ => 2 - (intOf i).toNat)
      case atStart => exact ⟨0, by omega, rfl, false, HI.out.1, (by first | exact Or.inl rfl | exact Or.inr (Or.inl rfl) | exact HC.out), HI.out.2.1, HI.out.2.2⟩
      case round =>
        clear HI HC
        obtain ⟨k, hk, rfl, p', hg, HP, hs, hbel⟩ := hrel
        by_cases hlt : k < 2
        · have hlt2 : (k : Int) < 2 := by omega
          have hcall := zinterrupt_coop hs (sim_cells ms st).1 hg (by omega) (by omega) (by omega) HP.out
          have HK : Hid (Calls _ _ _ _ _) := hcall
          clear hcall hs hg HP
          go_wp2_with fail
          refine HK.out.mono ?_
          rintro e w3 ⟨rfl, hg, hs, hb3⟩
          have hbel3 : Below w.heap.size w w3 := hbel.trans (hb3.mono (by omega))
          have HI : Hid (GS _ _ _ _ _ _ _ _ _ _ _ _ ∧ Blk _ _ _ _ ∧ Below _ _ _) := ⟨hg, hs, hbel3⟩
          have HG : Hid (Calls _ _ _ _ _) := gKept_any hg
          have c30 := hs.cellOf (sim_cells ms st).2.1
          have c28 := hs.cellOf (sim_cells ms st).2.2.1
          have c48 := hs.cellOf (sim_cells ms st).2.2.2.1
          have c23 := hs.cellOf (sim_cells ms st).2.2.2.2.1
          have c22 := hs.cellOf (sim_cells ms st).2.2.2.2.2
          clear hg hs hb3 hbel3 HK hbel
          go_wp2_with fail
          refine HG.out.mono ?_
          rintro e w4 ⟨rfl, hw4⟩
          subst hw4
          clear HG
          go_wp2_with fail
          refine (simSteps_any _ _ _ c30).mono ?_
          rintro e w5 ⟨rfl, hw5⟩
          subst hw5
          go_wp2_with fail
          refine (simReason_any _ _ _ c28).mono ?_
          rintro e w5 ⟨rfl, hw5⟩
          subst hw5
          go_wp2_with fail
          refine (simPreemptions_any _ _ _ c48).mono ?_
          rintro e w5 ⟨rfl, hw5⟩
          subst hw5
          go_wp2_with fail
          refine (simSeq_any _ _ _ c23).mono ?_
          rintro e w5 ⟨rfl, hw5⟩
          subst hw5
          go_wp2_with fail
          refine (simEventsLen_any _ _ c22).mono ?_
          rintro e w5 ⟨rfl, hw5⟩
          subst hw5
          go_wp2_with fail
          go_roundw
          case rel => exact ⟨k + 1, by omega, by go_num, true, HI.out.1, .inl rfl, HI.out.2.1, HI.out.2.2⟩
          case measure => simp [intOf]; omega
        · go_wp2_with fail
          go_ret
          exact ⟨rfl, hbel⟩
  · clear hp
    go_enter Try.func8, Try.ntmps8
    go_wp2_with fail
    refine (newSim_any _ _ _ _ _).mono ?_
    rintro e w1 ⟨rfl, rfl⟩
    have hs1 := Blk.new w (simCs false ms st 0 0) 88
    have hb1 : Below w.heap.size w (w.alloc (.cells (simCs false ms st 0 0) 88)) := (Below.refl _ _).alloc (Nat.le_refl _) _
    have hz1 : (w.alloc (.cells (simCs false ms st 0 0) 88)).heap.size = w.heap.size + 1 := by simp
    generalize w.alloc (.cells (simCs false ms st 0 0) 88) = W1 at *
    go_wp2_with fail
    refine (newG_any true c u s t v ce du W1).mono ?_
    rintro e w2 ⟨rfl, hg2, hb2⟩
    have hs2 := hs1.below hb2 hs1.lt
    have hbel2 : Below w.heap.size w w2 := hb1.trans (hb2.mono (by omega))
    have hbg : w.heap.size < W1.heap.size := by omega
    have HI : Hid (GS _ _ _ _ _ _ _ _ _ _ _ _ ∧ Blk _ _ _ _ ∧ Below _ _ _) := ⟨hg2, hs2, hbel2⟩
    clear hs1 hb1 hz1 hg2 hb2 hs2 hbel2
    generalize W1.heap.size = bo at *
    go_wp2_with fail
    go_loopw [23] (fun i wr => ∃ k : Nat, k ≤ 2 ∧ i = .int .i64 k ∧ ∃ p', GS wr bo (bo + 1) (bo + 1 + 1) p' c u s t v ce du ∧ Hid (p' = true ∨ c = false ∨ ce ≤ 0) ∧ Blk wr w.heap.size (simCs false ms st 0 0) 88 ∧ Below w.heap.size w wr) (fun i _ => 2 - (intOf i).toNat)
    case atStart => exact ⟨0, by omega, rfl, true, HI.out.1, (by first | exact Or.inl rfl | exact Or.inr (Or.inl rfl) | exact HC.out), HI.out.2.1, HI.out.2.2⟩
    case round =>
      clear HI HC
      obtain ⟨k, hk, rfl, p', hg, HP, hs, hbel⟩ := hrel
      by_cases hlt : k < 2
      · have hlt2 : (k : Int) < 2 := by omega
        have hcall := zinterrupt_coop hs (sim_cells ms st).1 hg (by omega) (by omega) (by omega) HP.out
        have HK : Hid (Calls _ _ _ _ _) := hcall
        clear hcall hs hg HP
        go_wp2_with fail
        refine HK.out.mono ?_
        rintro e w3 ⟨rfl, hg, hs, hb3⟩
        have hbel3 : Below w.heap.size w w3 := hbel.trans (hb3.mono (by omega))
        have HI : Hid (GS _ _ _ _ _ _ _ _ _ _ _ _ ∧ Blk _ _ _ _ ∧ Below _ _ _) := ⟨hg, hs, hbel3⟩
        have HG : Hid (Calls _ _ _ _ _) := gKept_any hg
        have c30 := hs.cellOf (sim_cells ms st).2.1
        have c28 := hs.cellOf (sim_cells ms st).2.2.1
        have c48 := hs.cellOf (sim_cells ms st).2.2.2.1
        have c23 := hs.cellOf (sim_cells ms st).2.2.2.2.1
        have c22 := hs.cellOf (sim_cells ms st).2.2.2.2.2
        clear hg hs hb3 hbel3 HK hbel
        go_wp2_with fail
        refine HG.out.mono ?_
        rintro e w4 ⟨rfl, hw4⟩
        subst hw4
        clear HG
        go_wp2_with fail
        refine (simSteps_any _ _ _ c30).mono ?_
        rintro e w5 ⟨rfl, hw5⟩
        subst hw5
        go_wp2_with fail
        refine (simReason_any _ _ _ c28).mono ?_
        rintro e w5 ⟨rfl, hw5⟩
        subst hw5
        go_wp2_with fail
        refine (simPreemptions_any _ _ _ c48).mono ?_
        rintro e w5 ⟨rfl, hw5⟩
        subst hw5
        go_wp2_with fail
        refine (simSeq_any _ _ _ c23).mono ?_
        rintro e w5 ⟨rfl, hw5⟩
        subst hw5
        go_wp2_with fail
        refine (simEventsLen_any _ _ c22).mono ?_
        rintro e w5 ⟨rfl, hw5⟩
        subst hw5
        go_wp2_with fail
        go_roundw
        case rel => exact ⟨k + 1, by omega, by go_num, true, HI.out.1, .inl rfl, HI.out.2.1, HI.out.2.2⟩
        case measure => simp [intOf]; omega
      · go_wp2_with fail
        go_ret
        exact ⟨rfl, hbel⟩
theorem walk (a0 a1 : Int) (a2 a3 : Bool) (a4 a5 a6 a7 a8 a9 : Int) (w0 : (Lit.int .i64 a0).wf = true) (w1 : (Lit.int .i64 a1).wf = true) (w4 : (Lit.int .i64 a4).wf = true) (w5 : (Lit.int .i64 a5).wf = true) (w6 : (Lit.int .i64 a6).wf = true) (w7 : (Lit.int .u64 a7).wf = true) (w8 : (Lit.int .i64 a8).wf = true) (w9 : (Lit.int .i64 a9).wf = true) (w : World) :
    Calls Try.prog 8 #[.int .i64 a0, .int .i64 a1, .bool a2, .bool a3, .int .i64 a4, .int .i64 a5, .int .i64 a6, .int .u64 a7, .int .i64 a8, .int .i64 a9] w fun e w' => e = .returned (.bool true) ∧ Below w.heap.size w w' := by
  cases hp : (!a2 && a3 && decide (0 < a8))
  · exact walkFrom a0 a1 a2 a3 a4 a5 a6 a7 a8 a9 w hp
  · simp at hp
    obtain ⟨⟨rfl, rfl⟩, hce⟩ := hp
    exact walkEarly a0 a1 a4 a5 a6 a7 a8 a9 w hce

set_option maxRecDepth 100000 in
theorem lifted (os : Os) (started : os.Started) (H : Type) (enc : TypeId × Value → H) :
    ReturnsInHanded {} Try.checked os 8 .any (Rows.fnInterruptCooperativeMarksSpec.pre6 enc Try.prog Try.f8 Rows.fnInterruptCooperativeMarksRow.domain false) (Rows.fnInterruptCooperativeMarksSpec.post enc Try.prog Try.f8 false true false false) := by
  refine returnsInHanded_of_change (C := Try.checked) own started (by kernel_rfl) Try.func8
    (ChangeSpec.witness6 (enc := enc) (C := Try.checked) false ⟨#[], #[.int .i64 0, .int .i64 0, .bool false, .bool false, .int .i64 0, .int .i64 0, .int .i64 0, .int .u64 0, .int .i64 0, .int .i64 0], []⟩ 8 (by kernel_rfl) (by kernel_rfl) (by kernel_rfl) (by kernel_rfl)) ?_
  intro W base args ds gs before hval0 hW hcnd _
  have hval : ∀ (j : Nat) t v, Try.f8.params[j]? = some t → args[j]? = some v → Value.okWide Try.prog W .any base t v := hval0
  have hW' := hW
  obtain ⟨p, q, hA0, hV, rfl, hfz, hnd⟩ := hW
  have hA : DataW.TrodAll enc Try.prog W 0 (fun _ => true) true Try.f8.params.toList args.toList ds p := hA0
  rw [Try.params8] at hA hval
  obtain ⟨v0, vs0, d0, ds0, p0, q0, hargs, rfl, rfl, h0, r0⟩ := trodAll_cons hA
  obtain ⟨v1, vs1, d1, ds1, p1, q1, rfl, rfl, rfl, h1, r1⟩ := trodAll_cons r0
  obtain ⟨v2, vs2, d2, ds2, p2, q2, rfl, rfl, rfl, h2, r2⟩ := trodAll_cons r1
  obtain ⟨v3, vs3, d3, ds3, p3, q3, rfl, rfl, rfl, h3, r3⟩ := trodAll_cons r2
  obtain ⟨v4, vs4, d4, ds4, p4, q4, rfl, rfl, rfl, h4, r4⟩ := trodAll_cons r3
  obtain ⟨v5, vs5, d5, ds5, p5, q5, rfl, rfl, rfl, h5, r5⟩ := trodAll_cons r4
  obtain ⟨v6, vs6, d6, ds6, p6, q6, rfl, rfl, rfl, h6, r6⟩ := trodAll_cons r5
  obtain ⟨v7, vs7, d7, ds7, p7, q7, rfl, rfl, rfl, h7, r7⟩ := trodAll_cons r6
  obtain ⟨v8, vs8, d8, ds8, p8, q8, rfl, rfl, rfl, h8, r8⟩ := trodAll_cons r7
  obtain ⟨v9, vs9, d9, ds9, p9, q9, rfl, rfl, rfl, h9, r9⟩ := trodAll_cons r8
  obtain ⟨rfl, rfl, rfl⟩ := trodAll_nil r9
  obtain rfl : args = #[v0, v1, v2, v3, v4, v5, v6, v7, v8, v9] := by cases args; simp_all
  obtain ⟨rfl, rfl⟩ := trodVars_none hV
  obtain ⟨a0, rfl, rfl, rfl, w0⟩ := open_int Try.underlying3 (hval 0 3 v0 rfl rfl) h0
  obtain ⟨a1, rfl, rfl, rfl, w1⟩ := open_int Try.underlying3 (hval 1 3 v1 rfl rfl) h1
  obtain ⟨a2, rfl, rfl, rfl⟩ := open_bool Try.underlying4 (hval 2 4 v2 rfl rfl) h2
  obtain ⟨a3, rfl, rfl, rfl⟩ := open_bool Try.underlying4 (hval 3 4 v3 rfl rfl) h3
  obtain ⟨a4, rfl, rfl, rfl, w4⟩ := open_int Try.underlying2 (hval 4 2 v4 rfl rfl) h4
  obtain ⟨a5, rfl, rfl, rfl, w5⟩ := open_int Try.underlying2 (hval 5 2 v5 rfl rfl) h5
  obtain ⟨a6, rfl, rfl, rfl, w6⟩ := open_int Try.underlying2 (hval 6 2 v6 rfl rfl) h6
  obtain ⟨a7, rfl, rfl, rfl, w7⟩ := open_int Try.underlying28 (hval 7 28 v7 rfl rfl) h7
  obtain ⟨a8, rfl, rfl, rfl, w8⟩ := open_int Try.underlying2 (hval 8 2 v8 rfl rfl) h8
  obtain ⟨a9, rfl, rfl, rfl, w9⟩ := open_int Try.underlying2 (hval 9 2 v9 rfl rfl) h9
  clear hA0 hval0
  refine (walk a0 a1 a2 a3 a4 a5 a6 a7 a8 a9 w0 w1 w4 w5 w6 w7 w8 w9 W).mono fun e W' ⟨he, bel⟩ => ?_
  subst he
  exact ⟨_, rfl, _, _, _, [], _, [], hW', trodAll_mk1 (shut_bool Try.underlying4 _), (trodAll_cons_mk (shut_int Try.underlying3 w0) (trodAll_cons_mk (shut_int Try.underlying3 w1) (trodAll_cons_mk (shut_bool Try.underlying4 _) (trodAll_cons_mk (shut_bool Try.underlying4 _) (trodAll_cons_mk (shut_int Try.underlying2 w4) (trodAll_cons_mk (shut_int Try.underlying2 w5) (trodAll_cons_mk (shut_int Try.underlying2 w6) (trodAll_cons_mk (shut_int Try.underlying28 w7) (trodAll_cons_mk (shut_int Try.underlying2 w8) (trodAll_cons_mk (shut_int Try.underlying2 w9) trodAll_mk0)))))))))), rfl, bel.frame _, fun h => by cases h⟩

theorem over : Rows.fnInterruptCooperativeMarksRow.holds Try.pinned (OpenSpec.ofChange Rows.fnInterruptCooperativeMarksSpec) :=
  OpenClaim.holds_of_wide 8 Try.f8 rfl rfl rfl rfl rfl rfl rfl ⟨rfl, rfl, rfl, rfl, rfl⟩ rfl rfl rfl rfl rfl (by kernel_rfl) Try.func8 (by kernel_rfl)
    (of_decide_eq_true (by kernel_rfl)) (by unfold Func.isWrapper; first | (rw [if_pos (by decide +kernel)]; kernel_rfl) | (rw [if_neg (by decide +kernel)]; exact ⟨rfl, rfl⟩))
    (fun os started H enc _ => lifted os started H enc)

/-- The statement. -/
theorem proved : Rows.FnInterruptCooperativeMarksSaid :=
  over
#print axioms proved
end Go.Proofs.Qxb6612683a.fnInterruptCooperativeMarks
