/-
  The cells of a 'sim' and what its small functions do: contracts shared by the laws over sim.
-/
import Derived.Test.Qxb6612683aRows
import Derived.WalkKit
import Derived.WalkSpells
import Derived.WalkLawsBesides
import Derived.Deep.QuietTactic
import Derived.BigQuiet
namespace Go.Proofs.Qxb6612683a
open Go.RowKit

def setCs (a : Bool) (ms : Int) : List Value := [.int .i64 0, .int .i64 0, .int .i64 0, .int .i64 0, .int .i64 0, .string ⟨#[]⟩, .int .i64 0, .bool a, .int .i64 0, .int .i64 0, .int .i64 0, .int .i64 0, .int .i64 0, .int .i64 0, .int .i64 0, .int .i64 0, .int .i64 0, .int .i64 ms, .int .i64 0]
/-- The sixty cells of a new sim. -/
def simCs (a : Bool) (ms st sp pr : Int) : Array Value := (setCs a ms ++ ([.pointer none, .nilIface, .int .i64 0, .slice none 0 0, .int .u64 0, .slice none 0 0, .slice none 0 0, .int .i64 0, .int .i64 0, .string ⟨#[]⟩, .int .i64 0,
  .int .i64 st, .nilIface, .slice none 0 0, .bool false, .int .i64 0, .int .i64 0, .int .i64 0, .int .i64 0, .int .i64 0, .map none, .int .i64 0, .slice none 0 0, .slice none 0 0, .int .i64 0, .int .i64 sp, .int .i64 0, .int .i64 0, .int .u64 0,
  .int .i64 pr, .bool false, .int .i64 0, .int .i64 0, .bool false, .nilIface, .int .i64 0, .int .i64 0, .bool false, .nilIface, .bool false, .bool false] : List Value)).toArray

theorem opWp_ok {P : Program} {o : Oper} {a : Act} {w : World} {K : Act → World → Prop} {Q : Exit → Act → World → Prop} (v : Value) (w' : World)
    (h : Sem.run P (execOp a.eval o) w = .ok (Next.value v) w') (hK : K (a.put o.dst v) w') : Oper.wp P o a w K Q := by
  unfold Oper.wp; rw [h]; exact hK

/-! ### a block of cells, whole -/
/-- Block b of the heap: the cells cs, of type t, none frozen. -/
def Blk (w : World) (b : Nat) (cs : Array Value) (t : TypeId) : Prop := w.heap[b]? = some (.cells cs t (0, 0))

theorem Blk.cell {w : World} {b : Nat} {cs : Array Value} {t : TypeId} (h : Blk w b cs t) (i : Nat) : w.cell? ⟨b, i, none⟩ = cs[i]? := by
  unfold Blk at h; simp [World.cell?, h]
theorem Blk.cellOf {w : World} {b : Nat} {cs : Array Value} {t : TypeId} (h : Blk w b cs t) {i : Nat} {v : Value} (hv : cs[i]? = some v) : w.cell? ⟨b, i, none⟩ = some v := by
  rw [h.cell, hv]
theorem Blk.free {w : World} {b : Nat} {cs : Array Value} {t : TypeId} (h : Blk w b cs t) (i : Nat) : w.frozen? ⟨b, i, none⟩ = false := by
  unfold Blk at h; simp [World.frozen?, h]
theorem Blk.drewN {w : World} {b : Nat} {cs : Array Value} {t : TypeId} (h : Blk w b cs t) (n : Nat) : Blk (w.drewN n) b cs t := h
theorem Blk.alloc {w : World} {b : Nat} {cs : Array Value} {t : TypeId} (h : Blk w b cs t) (o : Obj) : Blk (w.alloc o) b cs t := by
  unfold Blk at h ⊢
  have hb : b < w.heap.size := by
    by_cases hb : b < w.heap.size
    · exact hb
    · rw [Array.getElem?_eq_none (by omega)] at h; cases h
  show (w.heap.push o)[b]? = _
  rw [Array.getElem?_push, if_neg (by omega)]; exact h
theorem Blk.new (w : World) (cs : Array Value) (t : TypeId) : Blk (w.alloc (.cells cs t)) w.heap.size cs t := by
  show (w.heap.push _)[w.heap.size]? = _
  simp
theorem Blk.lt {w : World} {b : Nat} {cs : Array Value} {t : TypeId} (h : Blk w b cs t) : b < w.heap.size := by
  unfold Blk at h
  by_cases hb : b < w.heap.size
  · exact hb
  · rw [Array.getElem?_eq_none (by omega)] at h; cases h
theorem Blk.set {w : World} {b : Nat} {cs : Array Value} {t : TypeId} (h : Blk w b cs t) (i : Nat) (v : Value) : Blk (w.setCell ⟨b, i, none⟩ v) b (cs.setIfInBounds i v) t := by
  unfold Blk at h ⊢
  simp only [World.setCell, Array.getElem?_modify, h, if_true, Option.map_some]
  rfl
theorem Blk.setOther {w : World} {b : Nat} {cs : Array Value} {t : TypeId} (h : Blk w b cs t) (b' i : Nat) (v : Value) (hne : b' ≠ b) : Blk (w.setCell ⟨b', i, none⟩ v) b cs t := by
  unfold Blk at h ⊢
  simp only [World.setCell, Array.getElem?_modify, h, if_neg hne]
theorem Blk.below {w w' : World} {b B : Nat} {cs : Array Value} {t : TypeId} (h : Blk w b cs t) (hb : Below B w w') (hlt : b < B) : Blk w' b cs t := by
  unfold Blk at h ⊢
  rw [hb.block b hlt]; exact h

/-! ### ZZNewSim, ZZNewSimSpinning -/
set_option maxRecDepth 100000 in
set_option maxHeartbeats 4000000 in
theorem newSim_any (a : Bool) (ms st pr : Int) (w : World) :
    Calls Try.prog 23 #[.bool a, .int .i64 ms, .int .i64 st, .int .i64 pr] w fun e w' => e = .returned (.pointer (some ⟨w.heap.size, 0, none⟩)) ∧ w' = w.alloc (.cells (simCs a ms st 0 pr) 88) := by
  go_enter Try.func23, Try.ntmps23
  go_wp2_with fail
  refine opWp_ok (.agg (simCs a ms st 0 pr)) w (by kernel_rfl) ?_
  go_wp2_with fail
  go_ret
  exact ⟨rfl, rfl⟩

set_option maxRecDepth 100000 in
set_option maxHeartbeats 4000000 in
theorem newSimSpinning_any (sp : Int) (w : World) :
    Calls Try.prog 17 #[.int .i64 sp] w fun e w' => e = .returned (.pointer (some ⟨w.heap.size, 0, none⟩)) ∧ w' = w.alloc (.cells (simCs false 0 0 sp 0) 88) := by
  go_enter Try.func17, Try.ntmps17
  go_wp2_with fail
  refine opWp_ok (.agg (simCs false 0 0 sp 0)) w (by kernel_rfl) ?_
  go_wp2_with fail
  go_ret
  exact ⟨rfl, rfl⟩

end Go.Proofs.Qxb6612683a
