/-
  No cell of these rows narrows 'for every input' (looked for: loops, veiled, ifaces, maps, wideKeys, modest, calm, conditions, laid).
  DERIVED. THE GIVEN ROWS OF THIS SEAT. 3 by the template 'for every input the law returns true; each argument reads behind the call as it read before'; 0 by the template 'total and deterministic' (their statements: Qxb6613080aTotals.lean).
  GIVEN WITH THE SEED: the statements are not yours to turn. If you find one false, say at which input.
  Laid BY PROGRAM, IN A SANDBOX (cutbox-rows.mjs): the forced cells as the released guide's own fill.sh prints them over the translation 0b8affe7d026a4f8… (all of the seat's roots in one cut). By AI agents, Wed Nov 11 2026. No macro, syntax, notation, axiom, sorry.
-/
import Derived.Test.Qxb6613080aChecked
import GoSem.Claim
import GoSem.ClaimJoined
import GoSem.ClaimMapViews
import Derived.JoinedTies
import Derived.KernelRfl
namespace Go.Proofs.Qxb6613080a
/- THE CELL 'sum', in the pinned program and in every row, IS THE sha256 OF THE DUMP (.gsa) THAT Qxb6613080aProg.lean LOADS. Nothing in Lean hashes anything: it is a label: what it is worth is what the hold of that sum in a sandbox is worth. -/
noncomputable def Try.pinned : Pinned := { name := "qxb6613080a", sum := "0b8affe7d026a4f886b871f7dbfddc6d119e2b0691a4754e34b09bbe82fb83b2", checked := Try.checked }
namespace Rows
def none {H : Type} : Left H := { results := [], args := [] }

/-- 'zzlaws_node_b1.FnRoundWindowFillsEverySlot': WHATEVER THE INPUT: true; the input reads as it did. -/
def fnRoundWindowFillsEverySlotSpec : ChangeSpec := { name := "fnRoundWindowFillsEverySlot", fn := fun _ => fun
  | [d1, d2, d3] => { results := [.lit (.bool true)], args := [d1, d2, d3] }
  | _ => none }
def fnRoundWindowFillsEverySlotRow : OpenClaim := { program := "qxb6613080a", sum := "0b8affe7d026a4f886b871f7dbfddc6d119e2b0691a4754e34b09bbe82fb83b2", func := "example.com/fivefold/fivefold/zzlaws_node_b1.FnRoundWindowFillsEverySlot", spec := "fnRoundWindowFillsEverySlot", plainKeys := false, apart := false }
def FnRoundWindowFillsEverySlotSaid : Prop := fnRoundWindowFillsEverySlotRow.holds Try.pinned (OpenSpec.ofChange fnRoundWindowFillsEverySlotSpec)

/-- ITS FALSE NEIGHBOUR: 'it returns false'. Refute it at one input. -/
def fnRoundWindowFillsEverySlotWrong : ChangeSpec := { name := "fnRoundWindowFillsEverySlot", fn := fun _ => fun
  | [d1, d2, d3] => { results := [.lit (.bool false)], args := [d1, d2, d3] }
  | _ => none }
def FnRoundWindowFillsEverySlotWrongFalsely : Prop := fnRoundWindowFillsEverySlotRow.holds Try.pinned (OpenSpec.ofChange fnRoundWindowFillsEverySlotWrong)

/-- 'zzlaws_node_b1.FnRoundSharedExactlyAtMultiples': WHATEVER THE INPUT: true; the input reads as it did. -/
def fnRoundSharedExactlyAtMultiplesSpec : ChangeSpec := { name := "fnRoundSharedExactlyAtMultiples", fn := fun _ => fun
  | [d1, d2, d3, d4] => { results := [.lit (.bool true)], args := [d1, d2, d3, d4] }
  | _ => none }
def fnRoundSharedExactlyAtMultiplesRow : OpenClaim := { program := "qxb6613080a", sum := "0b8affe7d026a4f886b871f7dbfddc6d119e2b0691a4754e34b09bbe82fb83b2", func := "example.com/fivefold/fivefold/zzlaws_node_b1.FnRoundSharedExactlyAtMultiples", spec := "fnRoundSharedExactlyAtMultiples", plainKeys := false, apart := false }
def FnRoundSharedExactlyAtMultiplesSaid : Prop := fnRoundSharedExactlyAtMultiplesRow.holds Try.pinned (OpenSpec.ofChange fnRoundSharedExactlyAtMultiplesSpec)

/-- ITS FALSE NEIGHBOUR: 'it returns false'. Refute it at one input. -/
def fnRoundSharedExactlyAtMultiplesWrong : ChangeSpec := { name := "fnRoundSharedExactlyAtMultiples", fn := fun _ => fun
  | [d1, d2, d3, d4] => { results := [.lit (.bool false)], args := [d1, d2, d3, d4] }
  | _ => none }
def FnRoundSharedExactlyAtMultiplesWrongFalsely : Prop := fnRoundSharedExactlyAtMultiplesRow.holds Try.pinned (OpenSpec.ofChange fnRoundSharedExactlyAtMultiplesWrong)

/-- 'zzlaws_node_b1.FnOldestPlaceGoesToNewestKept': WHATEVER THE INPUT: true; the input reads as it did. -/
def fnOldestPlaceGoesToNewestKeptSpec : ChangeSpec := { name := "fnOldestPlaceGoesToNewestKept", fn := fun _ => fun
  | [d1, d2] => { results := [.lit (.bool true)], args := [d1, d2] }
  | _ => none }
def fnOldestPlaceGoesToNewestKeptRow : OpenClaim := { program := "qxb6613080a", sum := "0b8affe7d026a4f886b871f7dbfddc6d119e2b0691a4754e34b09bbe82fb83b2", func := "example.com/fivefold/fivefold/zzlaws_node_b1.FnOldestPlaceGoesToNewestKept", spec := "fnOldestPlaceGoesToNewestKept", plainKeys := false, apart := false }
def FnOldestPlaceGoesToNewestKeptSaid : Prop := fnOldestPlaceGoesToNewestKeptRow.holds Try.pinned (OpenSpec.ofChange fnOldestPlaceGoesToNewestKeptSpec)

/-- ITS FALSE NEIGHBOUR: 'it returns false'. Refute it at one input. -/
def fnOldestPlaceGoesToNewestKeptWrong : ChangeSpec := { name := "fnOldestPlaceGoesToNewestKept", fn := fun _ => fun
  | [d1, d2] => { results := [.lit (.bool false)], args := [d1, d2] }
  | _ => none }
def FnOldestPlaceGoesToNewestKeptWrongFalsely : Prop := fnOldestPlaceGoesToNewestKeptRow.holds Try.pinned (OpenSpec.ofChange fnOldestPlaceGoesToNewestKeptWrong)

end Rows
end Go.Proofs.Qxb6613080a
