/-
  FnInterruptAsyncAtLimitEndsRun: the walk and the row.
-/
import Derived.Test.Qxb6612683aIntr
import Derived.ProofKit
import Derived.OpenShut
import Derived.ShutString
import Derived.ChangeOld
import Derived.Below
namespace Go.Proofs.Qxb6612683a.fnInterruptAsyncAtLimitEndsRun
open Go.ChangeShapes Go.WideShapes Go.ChangeAt Go.RowKit
set_option linter.unusedVariables false

theorem own : ownKnob Try.prog.godebug = none := by kernel_rfl


theorem sim_cells (ms pr : Int) : (simCs true ms ms 0 pr)[7]? = some (.bool true) ∧ (simCs true ms ms 0 pr)[30]? = some (.int .i64 ms) ∧ (simCs true ms ms 0 pr)[17]? = some (.int .i64 ms) ∧ (simCs true ms ms 0 pr)[28]? = some (.string ⟨#[]⟩) ∧
    (simCs true ms ms 0 pr)[48]? = some (.int .i64 pr) ∧ (simCs true ms ms 0 pr)[23]? = some (.int .u64 0) ∧ (simCs true ms ms 0 pr)[22]? = some (.slice none 0 0) ∧ (simCs true ms ms 0 pr).size = 60 := ⟨rfl, rfl, rfl, rfl, rfl, rfl, rfl, rfl⟩

set_option maxHeartbeats 2000000 in
theorem walkFrom (ms pr : Int) (p c : Bool) (u s t v ce du : Int) (w : World) :
    Calls Try.prog 9 #[.int .i64 ms, .int .i64 pr, .bool p, .bool c, .int .i64 u, .int .i64 s, .int .i64 t, .int .u64 v, .int .i64 ce, .int .i64 du] w fun e w' => e = .returned (.bool true) ∧ Below w.heap.size w w' := by
  obtain ⟨q7, q30, q17, q28, q48, q23, q22, qsz⟩ := sim_cells ms pr
  have hsl : (stepLimit.toList == [115, 116, 101, 112, 45, 108, 105, 109, 105, 116]) = true := by decide +kernel
  have hsl2 : (stepLimit.toList != [115, 116, 101, 112, 45, 108, 105, 109, 105, 116]) = false := by decide +kernel
  go_enter Try.func9, Try.ntmps9
  go_wp2_with fail
  refine (newSim_any _ _ _ _ _).mono ?_
  rintro e w1 ⟨rfl, rfl⟩
  have hs1 := Blk.new w (simCs true ms ms 0 pr) 88
  have hb1 : Below w.heap.size w (w.alloc (.cells (simCs true ms ms 0 pr) 88)) := (Below.refl _ _).alloc (Nat.le_refl _) _
  have hz1 : (w.alloc (.cells (simCs true ms ms 0 pr) 88)).heap.size = w.heap.size + 1 := by simp
  generalize w.alloc (.cells (simCs true ms ms 0 pr) 88) = W1 at *
  go_wp2_with fail
  refine (newG_any p c u s t v ce du W1).mono ?_
  rintro e w2 ⟨rfl, hg2, hb2⟩
  have hs2 := hs1.below hb2 hs1.lt
  have hbel2 : Below w.heap.size w w2 := hb1.trans (hb2.mono (by omega))
  have hbg : w.heap.size < W1.heap.size := by omega
  have HI : Hid (GS _ _ _ _ _ _ _ _ _ _ _ _ ∧ Blk _ _ _ _ ∧ Below _ _ _) := ⟨hg2, hs2, hbel2⟩
  have HQ : Hid (simCs true ms ms 0 pr = simCs true ms ms 0 pr) := rfl
  generalize simCs true ms ms 0 pr = cs at *
  have HA : Hid (Calls _ _ _ _ _) := zinterrupt_async (bg := W1.heap.size + 1 + 1) hs2 q7 q30 q17 q28
  clear hs1 hb1 hz1 hg2 hb2 hs2 hbel2 HQ
  generalize W1.heap.size = bo at *
  go_wp2_with fail
  refine HA.out.mono ?_
  rintro e w3 ⟨rfl, n, rfl⟩
  have hs3 := (HI.out.2.1.drewN n).set 28 (.string stepLimit)
  have hg3 : GS ((w2.drewN n).setCell ⟨w.heap.size, 28, none⟩ (.string stepLimit)) bo (bo + 1) (bo + 1 + 1) p c u s t v ce du :=
    ⟨(HI.out.1.op.drewN n).setOther _ _ _ (by omega), (HI.out.1.fr.drewN n).setOther _ _ _ (by omega), (HI.out.1.g.drewN n).setOther _ _ _ (by omega)⟩
  have hb3 : Below w.heap.size w ((w2.drewN n).setCell ⟨w.heap.size, 28, none⟩ (.string stepLimit)) := (below_drewN HI.out.2.2 n).setCell (p := ⟨w.heap.size, 28, none⟩) (Nat.le_refl _) _
  generalize (w2.drewN n).setCell ⟨w.heap.size, 28, none⟩ (.string stepLimit) = w3 at *
  have r28 : (cs.setIfInBounds 28 (.string stepLimit))[28]? = some (.string stepLimit) := by rw [Array.getElem?_setIfInBounds_self_of_lt (by omega)]
  have r30 : (cs.setIfInBounds 28 (.string stepLimit))[30]? = some (.int .i64 ms) := by rw [Array.getElem?_setIfInBounds_ne (by omega)]; exact q30
  have r17 : (cs.setIfInBounds 28 (.string stepLimit))[17]? = some (.int .i64 ms) := by rw [Array.getElem?_setIfInBounds_ne (by omega)]; exact q17
  have r48 : (cs.setIfInBounds 28 (.string stepLimit))[48]? = some (.int .i64 pr) := by rw [Array.getElem?_setIfInBounds_ne (by omega)]; exact q48
  have r23 : (cs.setIfInBounds 28 (.string stepLimit))[23]? = some (.int .u64 0) := by rw [Array.getElem?_setIfInBounds_ne (by omega)]; exact q23
  have r22 : (cs.setIfInBounds 28 (.string stepLimit))[22]? = some (.slice none 0 0) := by rw [Array.getElem?_setIfInBounds_ne (by omega)]; exact q22
  have rsz : (cs.setIfInBounds 28 (.string stepLimit)).size = 60 := by simpa using qsz
  clear q7 q30 q17 q28 q48 q23 q22 qsz HI HA
  generalize cs.setIfInBounds 28 (.string stepLimit) = ds at *
  have c28 := hs3.cellOf r28
  have c30 := hs3.cellOf r30
  have c48 := hs3.cellOf r48
  have c23 := hs3.cellOf r23
  have c22 := hs3.cellOf r22
  have HG : Hid (Calls _ _ _ _ _) := gKept_any hg3
  have HZ : Hid (Calls _ _ _ _ _) := zstep_no hs3 r30 r17 r28
  have e28 : (ds.setIfInBounds 28 (.string stepLimit))[28]? = some (.string stepLimit) := by rw [Array.getElem?_setIfInBounds_self_of_lt (by omega)]
  have e30 : (ds.setIfInBounds 28 (.string stepLimit))[30]? = some (.int .i64 ms) := by rw [Array.getElem?_setIfInBounds_ne (by omega)]; exact r30
  have HE : Hid ((ds.setIfInBounds 28 (.string stepLimit))[28]? = some (.string stepLimit) ∧ (ds.setIfInBounds 28 (.string stepLimit))[30]? = some (.int .i64 ms)) := ⟨e28, e30⟩
  clear hg3 hs3 r28 r30 r17 r48 r23 r22 rsz e28 e30
  go_wp2_with fail
  refine (simReason_any _ _ _ c28).mono ?_
  rintro e w5 ⟨rfl, hw5⟩
  subst hw5
  go_wp2_with fail
  refine (simSteps_any _ _ _ c30).mono ?_
  rintro e w5 ⟨rfl, hw5⟩
  subst hw5
  go_wp2_with fail
  refine (simPreemptions_any _ _ _ c48).mono ?_
  rintro e w5 ⟨rfl, hw5⟩
  subst hw5
  go_wp2_with fail
  refine (simSeq_any _ _ _ c23).mono ?_
  rintro e w5 ⟨rfl, hw5⟩
  subst hw5
  go_wp2_with fail
  refine (simEventsLen_any _ _ c22).mono ?_
  rintro e w5 ⟨rfl, hw5⟩
  subst hw5
  go_wp2_with fail
  refine HG.out.mono ?_
  rintro e w4 ⟨rfl, hw4⟩
  subst hw4
  clear HG
  go_wp2_with fail
  refine HZ.out.mono ?_
  rintro e w6 ⟨rfl, hs6, hb6⟩
  have d28 := hs6.cellOf HE.out.1
  have d30 := hs6.cellOf HE.out.2
  have hb7 : Below w.heap.size w w6 := hb3.trans hb6
  clear hs6 HZ HE c28 c30 c48 c23 c22
  go_wp2_with fail
  refine (simSteps_any _ _ _ d30).mono ?_
  rintro e w5 ⟨rfl, hw5⟩
  subst hw5
  go_wp2_with fail
  refine (simReason_any _ _ _ d28).mono ?_
  rintro e w5 ⟨rfl, hw5⟩
  subst hw5
  go_wp2_with fail
  go_ret
  exact ⟨rfl, hb7⟩

theorem walk (a0 a1 : Int) (a2 a3 : Bool) (a4 a5 a6 a7 a8 a9 : Int) (w0 : (Lit.int .i64 a0).wf = true) (w1 : (Lit.int .i64 a1).wf = true) (w4 : (Lit.int .i64 a4).wf = true) (w5 : (Lit.int .i64 a5).wf = true) (w6 : (Lit.int .i64 a6).wf = true) (w7 : (Lit.int .u64 a7).wf = true) (w8 : (Lit.int .i64 a8).wf = true) (w9 : (Lit.int .i64 a9).wf = true) (w : World) :
    Calls Try.prog 9 #[.int .i64 a0, .int .i64 a1, .bool a2, .bool a3, .int .i64 a4, .int .i64 a5, .int .i64 a6, .int .u64 a7, .int .i64 a8, .int .i64 a9] w fun e w' => e = .returned (.bool true) ∧ Below w.heap.size w w' :=
  walkFrom a0 a1 a2 a3 a4 a5 a6 a7 a8 a9 w

set_option maxRecDepth 100000 in
theorem lifted (os : Os) (started : os.Started) (H : Type) (enc : TypeId × Value → H) :
    ReturnsInHanded {} Try.checked os 9 .any (Rows.fnInterruptAsyncAtLimitEndsRunSpec.pre6 enc Try.prog Try.f9 Rows.fnInterruptAsyncAtLimitEndsRunRow.domain false) (Rows.fnInterruptAsyncAtLimitEndsRunSpec.post enc Try.prog Try.f9 false true false false) := by
  refine returnsInHanded_of_change (C := Try.checked) own started (by kernel_rfl) Try.func9
    (ChangeSpec.witness6 (enc := enc) (C := Try.checked) false ⟨#[], #[.int .i64 0, .int .i64 0, .bool false, .bool false, .int .i64 0, .int .i64 0, .int .i64 0, .int .u64 0, .int .i64 0, .int .i64 0], []⟩ 8 (by kernel_rfl) (by kernel_rfl) (by kernel_rfl) (by kernel_rfl)) ?_
  intro W base args ds gs before hval0 hW hcnd _
  have hval : ∀ (j : Nat) t v, Try.f9.params[j]? = some t → args[j]? = some v → Value.okWide Try.prog W .any base t v := hval0
  have hW' := hW
  obtain ⟨p, q, hA0, hV, rfl, hfz, hnd⟩ := hW
  have hA : DataW.TrodAll enc Try.prog W 0 (fun _ => true) true Try.f9.params.toList args.toList ds p := hA0
  rw [Try.params9] at hA hval
  obtain ⟨v0, vs0, d0, ds0, p0, q0, hargs, rfl, rfl, h0, r0⟩ := trodAll_cons hA
  obtain ⟨v1, vs1, d1, ds1, p1, q1, rfl, rfl, rfl, h1, r1⟩ := trodAll_cons r0
  obtain ⟨v2, vs2, d2, ds2, p2, q2, rfl, rfl, rfl, h2, r2⟩ := trodAll_cons r1
  obtain ⟨v3, vs3, d3, ds3, p3, q3, rfl, rfl, rfl, h3, r3⟩ := trodAll_cons r2
  obtain ⟨v4, vs4, d4, ds4, p4, q4, rfl, rfl, rfl, h4, r4⟩ := trodAll_cons r3
  obtain ⟨v5, vs5, d5, ds5, p5, q5, rfl, rfl, rfl, h5, r5⟩ := trodAll_cons r4
  obtain ⟨v6, vs6, d6, ds6, p6, q6, rfl, rfl, rfl, h6, r6⟩ := trodAll_cons r5
  obtain ⟨v7, vs7, d7, ds7, p7, q7, rfl, rfl, rfl, h7, r7⟩ := trodAll_cons r6
  obtain ⟨v8, vs8, d8, ds8, p8, q8, rfl, rfl, rfl, h8, r8⟩ := trodAll_cons r7
  obtain ⟨v9, vs9, d9, ds9, p9, q9, rfl, rfl, rfl, h9, r9⟩ := trodAll_cons r8
  obtain ⟨rfl, rfl, rfl⟩ := trodAll_nil r9
  obtain rfl : args = #[v0, v1, v2, v3, v4, v5, v6, v7, v8, v9] := by cases args; simp_all
  obtain ⟨rfl, rfl⟩ := trodVars_none hV
  obtain ⟨a0, rfl, rfl, rfl, w0⟩ := open_int Try.underlying3 (hval 0 3 v0 rfl rfl) h0
  obtain ⟨a1, rfl, rfl, rfl, w1⟩ := open_int Try.underlying3 (hval 1 3 v1 rfl rfl) h1
  obtain ⟨a2, rfl, rfl, rfl⟩ := open_bool Try.underlying4 (hval 2 4 v2 rfl rfl) h2
  obtain ⟨a3, rfl, rfl, rfl⟩ := open_bool Try.underlying4 (hval 3 4 v3 rfl rfl) h3
  obtain ⟨a4, rfl, rfl, rfl, w4⟩ := open_int Try.underlying2 (hval 4 2 v4 rfl rfl) h4
  obtain ⟨a5, rfl, rfl, rfl, w5⟩ := open_int Try.underlying2 (hval 5 2 v5 rfl rfl) h5
  obtain ⟨a6, rfl, rfl, rfl, w6⟩ := open_int Try.underlying2 (hval 6 2 v6 rfl rfl) h6
  obtain ⟨a7, rfl, rfl, rfl, w7⟩ := open_int Try.underlying28 (hval 7 28 v7 rfl rfl) h7
  obtain ⟨a8, rfl, rfl, rfl, w8⟩ := open_int Try.underlying2 (hval 8 2 v8 rfl rfl) h8
  obtain ⟨a9, rfl, rfl, rfl, w9⟩ := open_int Try.underlying2 (hval 9 2 v9 rfl rfl) h9
  clear hA0 hval0
  refine (walk a0 a1 a2 a3 a4 a5 a6 a7 a8 a9 w0 w1 w4 w5 w6 w7 w8 w9 W).mono fun e W' ⟨he, bel⟩ => ?_
  subst he
  exact ⟨_, rfl, _, _, _, [], _, [], hW', trodAll_mk1 (shut_bool Try.underlying4 _), (trodAll_cons_mk (shut_int Try.underlying3 w0) (trodAll_cons_mk (shut_int Try.underlying3 w1) (trodAll_cons_mk (shut_bool Try.underlying4 _) (trodAll_cons_mk (shut_bool Try.underlying4 _) (trodAll_cons_mk (shut_int Try.underlying2 w4) (trodAll_cons_mk (shut_int Try.underlying2 w5) (trodAll_cons_mk (shut_int Try.underlying2 w6) (trodAll_cons_mk (shut_int Try.underlying28 w7) (trodAll_cons_mk (shut_int Try.underlying2 w8) (trodAll_cons_mk (shut_int Try.underlying2 w9) trodAll_mk0)))))))))), rfl, bel.frame _, fun h => by cases h⟩

theorem over : Rows.fnInterruptAsyncAtLimitEndsRunRow.holds Try.pinned (OpenSpec.ofChange Rows.fnInterruptAsyncAtLimitEndsRunSpec) :=
  OpenClaim.holds_of_wide 9 Try.f9 rfl rfl rfl rfl rfl rfl rfl ⟨rfl, rfl, rfl, rfl, rfl⟩ rfl rfl rfl rfl rfl (by kernel_rfl) Try.func9 (by kernel_rfl)
    (of_decide_eq_true (by kernel_rfl)) (by unfold Func.isWrapper; first | (rw [if_pos (by decide +kernel)]; kernel_rfl) | (rw [if_neg (by decide +kernel)]; exact ⟨rfl, rfl⟩))
    (fun os started H enc _ => lifted os started H enc)

/-- The statement. -/
theorem proved : Rows.FnInterruptAsyncAtLimitEndsRunSaid :=
  over
#print axioms proved
end Go.Proofs.Qxb6612683a.fnInterruptAsyncAtLimitEndsRun
