/-
  No cell of these rows narrows 'for every input' (looked for: loops, veiled, ifaces, maps, wideKeys, modest, calm, conditions, laid).
  DERIVED. THE GIVEN ROWS OF THIS SEAT. 7 by the template 'for every input the law returns true; each argument reads behind the call as it read before'; 0 by the template 'total and deterministic' (their statements: Qxb6612683aTotals.lean).
  GIVEN WITH THE SEED: the statements are not yours to turn. If you find one false, say at which input.
  Laid BY PROGRAM, IN A SANDBOX (cutbox-rows.mjs): the forced cells as the released guide's own fill.sh prints them over the translation 429bc98eb7439d88… (all of the seat's roots in one cut). By AI agents, Wed Nov 11 2026. No macro, syntax, notation, axiom, sorry.
-/
import Derived.Test.Qxb6612683aChecked
import GoSem.Claim
import GoSem.ClaimJoined
import GoSem.ClaimMapViews
import Derived.JoinedTies
import Derived.KernelRfl
namespace Go.Proofs.Qxb6612683a
/- THE CELL 'sum', in the pinned program and in every row, IS THE sha256 OF THE DUMP (.gsa) THAT Qxb6612683aProg.lean LOADS. Nothing in Lean hashes anything: it is a label: what it is worth is what the hold of that sum in a sandbox is worth. -/
noncomputable def Try.pinned : Pinned := { name := "qxb6612683a", sum := "429bc98eb7439d88ab3f37a8e02bccd5e19348d1a405d43e2f15cdc4f4d2eb05", checked := Try.checked }
namespace Rows
def none {H : Type} : Left H := { results := [], args := [] }

/-- 'zzlaws_internal_sched_b1.FnPushBuildsHeap': WHATEVER THE INPUT: true; the input reads as it did. -/
def fnPushBuildsHeapSpec : ChangeSpec := { name := "fnPushBuildsHeap", fn := fun _ => fun
  | [d] => { results := [.lit (.bool true)], args := [d] }
  | _ => none }
def fnPushBuildsHeapRow : OpenClaim := { program := "qxb6612683a", sum := "429bc98eb7439d88ab3f37a8e02bccd5e19348d1a405d43e2f15cdc4f4d2eb05", func := "example.com/velvet-loom/velvet-loom/zzlaws_internal_sched_b1.FnPushBuildsHeap", spec := "fnPushBuildsHeap", apart := false }
def FnPushBuildsHeapSaid : Prop := fnPushBuildsHeapRow.holds Try.pinned (OpenSpec.ofChange fnPushBuildsHeapSpec)

/-- ITS FALSE NEIGHBOUR: 'it returns false'. Refute it at one input. -/
def fnPushBuildsHeapWrong : ChangeSpec := { name := "fnPushBuildsHeap", fn := fun _ => fun
  | [d] => { results := [.lit (.bool false)], args := [d] }
  | _ => none }
def FnPushBuildsHeapWrongFalsely : Prop := fnPushBuildsHeapRow.holds Try.pinned (OpenSpec.ofChange fnPushBuildsHeapWrong)

/-- 'zzlaws_internal_sched_b1.FnPushSiftsAlongPath': WHATEVER THE INPUT: true; the input reads as it did. -/
def fnPushSiftsAlongPathSpec : ChangeSpec := { name := "fnPushSiftsAlongPath", fn := fun _ => fun
  | [d1, d2] => { results := [.lit (.bool true)], args := [d1, d2] }
  | _ => none }
def fnPushSiftsAlongPathRow : OpenClaim := { program := "qxb6612683a", sum := "429bc98eb7439d88ab3f37a8e02bccd5e19348d1a405d43e2f15cdc4f4d2eb05", func := "example.com/velvet-loom/velvet-loom/zzlaws_internal_sched_b1.FnPushSiftsAlongPath", spec := "fnPushSiftsAlongPath", apart := false }
def FnPushSiftsAlongPathSaid : Prop := fnPushSiftsAlongPathRow.holds Try.pinned (OpenSpec.ofChange fnPushSiftsAlongPathSpec)

/-- ITS FALSE NEIGHBOUR: 'it returns false'. Refute it at one input. -/
def fnPushSiftsAlongPathWrong : ChangeSpec := { name := "fnPushSiftsAlongPath", fn := fun _ => fun
  | [d1, d2] => { results := [.lit (.bool false)], args := [d1, d2] }
  | _ => none }
def FnPushSiftsAlongPathWrongFalsely : Prop := fnPushSiftsAlongPathRow.holds Try.pinned (OpenSpec.ofChange fnPushSiftsAlongPathWrong)

/-- 'zzlaws_internal_sched_b1.FnStopSpinningTwice': WHATEVER THE INPUT: true; the input reads as it did. -/
def fnStopSpinningTwiceSpec : ChangeSpec := { name := "fnStopSpinningTwice", fn := fun _ => fun
  | [d1, d2] => { results := [.lit (.bool true)], args := [d1, d2] }
  | _ => none }
def fnStopSpinningTwiceRow : OpenClaim := { program := "qxb6612683a", sum := "429bc98eb7439d88ab3f37a8e02bccd5e19348d1a405d43e2f15cdc4f4d2eb05", func := "example.com/velvet-loom/velvet-loom/zzlaws_internal_sched_b1.FnStopSpinningTwice", spec := "fnStopSpinningTwice", apart := false }
def FnStopSpinningTwiceSaid : Prop := fnStopSpinningTwiceRow.holds Try.pinned (OpenSpec.ofChange fnStopSpinningTwiceSpec)

/-- ITS FALSE NEIGHBOUR: 'it returns false'. Refute it at one input. -/
def fnStopSpinningTwiceWrong : ChangeSpec := { name := "fnStopSpinningTwice", fn := fun _ => fun
  | [d1, d2] => { results := [.lit (.bool false)], args := [d1, d2] }
  | _ => none }
def FnStopSpinningTwiceWrongFalsely : Prop := fnStopSpinningTwiceRow.holds Try.pinned (OpenSpec.ofChange fnStopSpinningTwiceWrong)

/-- 'zzlaws_internal_sched_b1.FnStopSpinningConservesCount': WHATEVER THE INPUT: true; the input reads as it did. -/
def fnStopSpinningConservesCountSpec : ChangeSpec := { name := "fnStopSpinningConservesCount", fn := fun _ => fun
  | [d1, d2, d3] => { results := [.lit (.bool true)], args := [d1, d2, d3] }
  | _ => none }
def fnStopSpinningConservesCountRow : OpenClaim := { program := "qxb6612683a", sum := "429bc98eb7439d88ab3f37a8e02bccd5e19348d1a405d43e2f15cdc4f4d2eb05", func := "example.com/velvet-loom/velvet-loom/zzlaws_internal_sched_b1.FnStopSpinningConservesCount", spec := "fnStopSpinningConservesCount", apart := false }
def FnStopSpinningConservesCountSaid : Prop := fnStopSpinningConservesCountRow.holds Try.pinned (OpenSpec.ofChange fnStopSpinningConservesCountSpec)

/-- ITS FALSE NEIGHBOUR: 'it returns false'. Refute it at one input. -/
def fnStopSpinningConservesCountWrong : ChangeSpec := { name := "fnStopSpinningConservesCount", fn := fun _ => fun
  | [d1, d2, d3] => { results := [.lit (.bool false)], args := [d1, d2, d3] }
  | _ => none }
def FnStopSpinningConservesCountWrongFalsely : Prop := fnStopSpinningConservesCountRow.holds Try.pinned (OpenSpec.ofChange fnStopSpinningConservesCountWrong)

/-- 'zzlaws_internal_sched_b1.FnStepCountsToLimit': WHATEVER THE INPUT: true; the input reads as it did. -/
def fnStepCountsToLimitSpec : ChangeSpec := { name := "fnStepCountsToLimit", fn := fun _ => fun
  | [d1, d2, d3] => { results := [.lit (.bool true)], args := [d1, d2, d3] }
  | _ => none }
def fnStepCountsToLimitRow : OpenClaim := { program := "qxb6612683a", sum := "429bc98eb7439d88ab3f37a8e02bccd5e19348d1a405d43e2f15cdc4f4d2eb05", func := "example.com/velvet-loom/velvet-loom/zzlaws_internal_sched_b1.FnStepCountsToLimit", spec := "fnStepCountsToLimit", apart := false }
def FnStepCountsToLimitSaid : Prop := fnStepCountsToLimitRow.holds Try.pinned (OpenSpec.ofChange fnStepCountsToLimitSpec)

/-- ITS FALSE NEIGHBOUR: 'it returns false'. Refute it at one input. -/
def fnStepCountsToLimitWrong : ChangeSpec := { name := "fnStepCountsToLimit", fn := fun _ => fun
  | [d1, d2, d3] => { results := [.lit (.bool false)], args := [d1, d2, d3] }
  | _ => none }
def FnStepCountsToLimitWrongFalsely : Prop := fnStepCountsToLimitRow.holds Try.pinned (OpenSpec.ofChange fnStepCountsToLimitWrong)

/-- 'zzlaws_internal_sched_b1.FnInterruptCooperativeMarks': WHATEVER THE INPUT: true; the input reads as it did. -/
def fnInterruptCooperativeMarksSpec : ChangeSpec := { name := "fnInterruptCooperativeMarks", fn := fun _ => fun
  | [d1, d2, d3, d4, d5, d6, d7, d8, d9, d10] => { results := [.lit (.bool true)], args := [d1, d2, d3, d4, d5, d6, d7, d8, d9, d10] }
  | _ => none }
def fnInterruptCooperativeMarksRow : OpenClaim := { program := "qxb6612683a", sum := "429bc98eb7439d88ab3f37a8e02bccd5e19348d1a405d43e2f15cdc4f4d2eb05", func := "example.com/velvet-loom/velvet-loom/zzlaws_internal_sched_b1.FnInterruptCooperativeMarks", spec := "fnInterruptCooperativeMarks", unfollowed := true, recurses := true, apart := false }
def FnInterruptCooperativeMarksSaid : Prop := fnInterruptCooperativeMarksRow.holds Try.pinned (OpenSpec.ofChange fnInterruptCooperativeMarksSpec)

/-- ITS FALSE NEIGHBOUR: 'it returns false'. Refute it at one input. -/
def fnInterruptCooperativeMarksWrong : ChangeSpec := { name := "fnInterruptCooperativeMarks", fn := fun _ => fun
  | [d1, d2, d3, d4, d5, d6, d7, d8, d9, d10] => { results := [.lit (.bool false)], args := [d1, d2, d3, d4, d5, d6, d7, d8, d9, d10] }
  | _ => none }
def FnInterruptCooperativeMarksWrongFalsely : Prop := fnInterruptCooperativeMarksRow.holds Try.pinned (OpenSpec.ofChange fnInterruptCooperativeMarksWrong)

/-- 'zzlaws_internal_sched_b1.FnInterruptAsyncAtLimitEndsRun': WHATEVER THE INPUT: true; the input reads as it did. -/
def fnInterruptAsyncAtLimitEndsRunSpec : ChangeSpec := { name := "fnInterruptAsyncAtLimitEndsRun", fn := fun _ => fun
  | [d1, d2, d3, d4, d5, d6, d7, d8, d9, d10] => { results := [.lit (.bool true)], args := [d1, d2, d3, d4, d5, d6, d7, d8, d9, d10] }
  | _ => none }
def fnInterruptAsyncAtLimitEndsRunRow : OpenClaim := { program := "qxb6612683a", sum := "429bc98eb7439d88ab3f37a8e02bccd5e19348d1a405d43e2f15cdc4f4d2eb05", func := "example.com/velvet-loom/velvet-loom/zzlaws_internal_sched_b1.FnInterruptAsyncAtLimitEndsRun", spec := "fnInterruptAsyncAtLimitEndsRun", unfollowed := true, recurses := true, apart := false }
def FnInterruptAsyncAtLimitEndsRunSaid : Prop := fnInterruptAsyncAtLimitEndsRunRow.holds Try.pinned (OpenSpec.ofChange fnInterruptAsyncAtLimitEndsRunSpec)

/-- ITS FALSE NEIGHBOUR: 'it returns false'. Refute it at one input. -/
def fnInterruptAsyncAtLimitEndsRunWrong : ChangeSpec := { name := "fnInterruptAsyncAtLimitEndsRun", fn := fun _ => fun
  | [d1, d2, d3, d4, d5, d6, d7, d8, d9, d10] => { results := [.lit (.bool false)], args := [d1, d2, d3, d4, d5, d6, d7, d8, d9, d10] }
  | _ => none }
def FnInterruptAsyncAtLimitEndsRunWrongFalsely : Prop := fnInterruptAsyncAtLimitEndsRunRow.holds Try.pinned (OpenSpec.ofChange fnInterruptAsyncAtLimitEndsRunWrong)

end Rows
end Go.Proofs.Qxb6612683a
