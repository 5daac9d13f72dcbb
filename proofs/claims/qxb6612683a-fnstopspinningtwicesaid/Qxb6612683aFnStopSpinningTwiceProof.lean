/-
  FnStopSpinningTwice: the walk and the row.
-/
import Derived.Test.Qxb6612683aSim
import Derived.ProofKit
import Derived.OpenShut
import Derived.ShutString
import Derived.ChangeOld
import Derived.Below
namespace Go.Proofs.Qxb6612683a.fnStopSpinningTwice
open Go.ChangeShapes Go.WideShapes Go.ChangeAt Go.RowKit
set_option linter.unusedVariables false

theorem own : ownKnob Try.prog.godebug = none := by kernel_rfl

theorem cs_44 (sp : Int) : (simCs false 0 0 sp 0)[44]? = some (.int .i64 sp) := rfl

set_option maxHeartbeats 400000 in
theorem walkNo (sp : Int) (w : World) :
    Calls Try.prog 5 #[.int .i64 sp, .bool false] w fun e w' => e = .returned (.bool true) ∧ Below w.heap.size w w' := by
  go_enter Try.func5, Try.ntmps5
  go_wp2_with fail
  refine (newSimSpinning_any _ _).mono ?_
  rintro e w1 ⟨rfl, rfl⟩
  go_wp2_with fail
  refine (newThread_any _ _).mono ?_
  rintro e w2 ⟨rfl, rfl⟩
  have hs := (Blk.new w (simCs false 0 0 sp 0) 88).alloc (.cells #[.bool false] 90)
  have hm : Blk ((w.alloc (.cells (simCs false 0 0 sp 0) 88)).alloc (.cells #[.bool false] 90)) (w.heap.size + 1) #[.bool false] 90 := by
    have := Blk.new (w.alloc (.cells (simCs false 0 0 sp 0) 88)) #[.bool false] 90
    simpa using this
  have hb : Below w.heap.size w ((w.alloc (.cells (simCs false 0 0 sp 0) 88)).alloc (.cells #[.bool false] 90)) := ((Below.refl _ _).alloc (Nat.le_refl _) _).alloc (by simp) _
  generalize (w.alloc (.cells (simCs false 0 0 sp 0) 88)).alloc (.cells #[.bool false] 90) = w2 at *
  have c44 := hs.cellOf (cs_44 sp)
  have c0 : w2.cell? ⟨w.heap.size + 1, 0, none⟩ = some (.bool false) := hm.cellOf rfl
  clear hs hm
  go_wp2_with fail
  refine (zstop_no _ _ _ c0).mono ?_
  rintro e w3 ⟨rfl, rfl⟩
  go_wp2_with fail
  refine (zstop_no _ _ _ c0).mono ?_
  rintro e w3 ⟨rfl, rfl⟩
  go_wp2_with fail
  refine (threadSpinning_any _ _ _ c0).mono ?_
  rintro e w3 ⟨rfl, rfl⟩
  go_wp2_with fail
  refine (simSpinning_any _ _ _ c44).mono ?_
  rintro e w3 ⟨rfl, rfl⟩
  go_wp2_with fail
  go_ret
  exact ⟨rfl, hb⟩

set_option maxHeartbeats 400000 in
theorem walkYes (sp : Int) (w : World) :
    Calls Try.prog 5 #[.int .i64 sp, .bool true] w fun e w' => e = .returned (.bool true) ∧ Below w.heap.size w w' := by
  go_enter Try.func5, Try.ntmps5
  go_wp2_with fail
  refine (newSimSpinning_any _ _).mono ?_
  rintro e w1 ⟨rfl, rfl⟩
  go_wp2_with fail
  refine (newThread_any _ _).mono ?_
  rintro e w2 ⟨rfl, rfl⟩
  have hs := (Blk.new w (simCs false 0 0 sp 0) 88).alloc (.cells #[.bool true] 90)
  have hm : Blk ((w.alloc (.cells (simCs false 0 0 sp 0) 88)).alloc (.cells #[.bool true] 90)) (w.heap.size + 1) #[.bool true] 90 := by
    have := Blk.new (w.alloc (.cells (simCs false 0 0 sp 0) 88)) #[.bool true] 90
    simpa using this
  have hb : Below w.heap.size w ((w.alloc (.cells (simCs false 0 0 sp 0) 88)).alloc (.cells #[.bool true] 90)) := ((Below.refl _ _).alloc (Nat.le_refl _) _).alloc (by simp) _
  generalize (w.alloc (.cells (simCs false 0 0 sp 0) 88)).alloc (.cells #[.bool true] 90) = w2 at *
  have c44 := hs.cellOf (cs_44 sp)
  have c0 : w2.cell? ⟨w.heap.size + 1, 0, none⟩ = some (.bool true) := hm.cellOf rfl
  have f44 := hs.free 44
  have f0 := hm.free 0
  have hs2 := (hs.setOther (w.heap.size + 1) 0 (.bool false) (by omega)).set 44 (.int .i64 (wrap64 (sp - 1)))
  have hm2 := (hm.set 0 (.bool false)).setOther w.heap.size 44 (.int .i64 (wrap64 (sp - 1))) (by omega)
  have hb2 : Below w.heap.size w ((w2.setCell ⟨w.heap.size + 1, 0, none⟩ (.bool false)).setCell ⟨w.heap.size, 44, none⟩ (.int .i64 (wrap64 (sp - 1)))) :=
    (hb.setCell (p := ⟨w.heap.size + 1, 0, none⟩) (Nat.le_succ _) _).setCell (p := ⟨w.heap.size, 44, none⟩) (Nat.le_refl _) _
  clear hs hm
  go_wp2_with fail
  refine (zstop_yes _ _ sp _ (by omega) c0 f0 c44 f44).mono ?_
  rintro e w3 ⟨rfl, rfl⟩
  generalize ((w2.setCell ⟨w.heap.size + 1, 0, none⟩ (.bool false)).setCell ⟨w.heap.size, 44, none⟩ (.int .i64 (wrap64 (sp - 1)))) = w3 at *
  have d44 : w3.cell? ⟨w.heap.size, 44, none⟩ = some (.int .i64 (wrap64 (sp - 1))) := hs2.cellOf (by rw [Array.getElem?_setIfInBounds_self_of_lt (by show 44 < 60; omega)])
  have d0 : w3.cell? ⟨w.heap.size + 1, 0, none⟩ = some (.bool false) := hm2.cellOf rfl
  clear c0 f0 c44 f44 hs2 hm2 hb
  go_wp2_with fail
  refine (zstop_no _ _ _ d0).mono ?_
  rintro e w4 ⟨rfl, rfl⟩
  go_wp2_with fail
  refine (threadSpinning_any _ _ _ d0).mono ?_
  rintro e w4 ⟨rfl, rfl⟩
  go_wp2_with fail
  refine (simSpinning_any _ _ _ d44).mono ?_
  rintro e w4 ⟨rfl, rfl⟩
  go_wp2_with fail
  go_ret
  exact ⟨by simp, hb2⟩

theorem walk (a0 : Int) (a1 : Bool) (w0 : (Lit.int .i64 a0).wf = true) (w : World) :
    Calls Try.prog 5 #[.int .i64 a0, .bool a1] w fun e w' => e = .returned (.bool true) ∧ Below w.heap.size w w' := by
  cases a1
  · exact walkNo a0 w
  · exact walkYes a0 w

set_option maxRecDepth 100000 in
theorem lifted (os : Os) (started : os.Started) (H : Type) (enc : TypeId × Value → H) :
    ReturnsInHanded {} Try.checked os 5 .any (Rows.fnStopSpinningTwiceSpec.pre6 enc Try.prog Try.f5 Rows.fnStopSpinningTwiceRow.domain false) (Rows.fnStopSpinningTwiceSpec.post enc Try.prog Try.f5 false true false false) := by
  refine returnsInHanded_of_change (C := Try.checked) own started (by kernel_rfl) Try.func5
    (ChangeSpec.witness6 (enc := enc) (C := Try.checked) false ⟨#[], #[.int .i64 0, .bool false], []⟩ 8 (by kernel_rfl) (by kernel_rfl) (by kernel_rfl) (by kernel_rfl)) ?_
  intro W base args ds gs before hval0 hW hcnd _
  have hval : ∀ (j : Nat) t v, Try.f5.params[j]? = some t → args[j]? = some v → Value.okWide Try.prog W .any base t v := hval0
  have hW' := hW
  obtain ⟨p, q, hA0, hV, rfl, hfz, hnd⟩ := hW
  have hA : DataW.TrodAll enc Try.prog W 0 (fun _ => true) true Try.f5.params.toList args.toList ds p := hA0
  rw [Try.params5] at hA hval
  obtain ⟨v0, vs0, d0, ds0, p0, q0, hargs, rfl, rfl, h0, r0⟩ := trodAll_cons hA
  obtain ⟨v1, vs1, d1, ds1, p1, q1, rfl, rfl, rfl, h1, r1⟩ := trodAll_cons r0
  obtain ⟨rfl, rfl, rfl⟩ := trodAll_nil r1
  obtain rfl : args = #[v0, v1] := by cases args; simp_all
  obtain ⟨rfl, rfl⟩ := trodVars_none hV
  obtain ⟨a0, rfl, rfl, rfl, w0⟩ := open_int Try.underlying3 (hval 0 3 v0 rfl rfl) h0
  obtain ⟨a1, rfl, rfl, rfl⟩ := open_bool Try.underlying4 (hval 1 4 v1 rfl rfl) h1
  clear hA0 hval0
  refine (walk a0 a1 w0 W).mono fun e W' ⟨he, bel⟩ => ?_
  subst he
  exact ⟨_, rfl, _, _, _, [], _, [], hW', trodAll_mk1 (shut_bool Try.underlying4 _), (trodAll_cons_mk (shut_int Try.underlying3 w0) (trodAll_cons_mk (shut_bool Try.underlying4 _) trodAll_mk0)), rfl, bel.frame _, fun h => by cases h⟩

theorem over : Rows.fnStopSpinningTwiceRow.holds Try.pinned (OpenSpec.ofChange Rows.fnStopSpinningTwiceSpec) :=
  OpenClaim.holds_of_wide 5 Try.f5 rfl rfl rfl rfl rfl rfl rfl ⟨rfl, rfl, rfl, rfl, rfl⟩ rfl rfl rfl rfl rfl (by kernel_rfl) Try.func5 (by kernel_rfl)
    (of_decide_eq_true (by kernel_rfl)) (by unfold Func.isWrapper; first | (rw [if_pos (by decide +kernel)]; kernel_rfl) | (rw [if_neg (by decide +kernel)]; exact ⟨rfl, rfl⟩))
    (fun os started H enc _ => lifted os started H enc)

/-- The statement. -/
theorem proved : Rows.FnStopSpinningTwiceSaid :=
  over
#print axioms proved
end Go.Proofs.Qxb6612683a.fnStopSpinningTwice
