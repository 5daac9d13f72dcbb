/-
  A goroutine in memory, interrupt, gKept: contracts.
-/
import Derived.Test.Qxb6612683aSim
namespace Go.Proofs.Qxb6612683a
open Go.RowKit

def opCs (ce du : Int) : Array Value := #[.string ⟨#[114, 117, 110]⟩, .int .i64 0, .int .i64 du, .int .i64 ce, .string ⟨#[]⟩, .pointer none, .pointer none, .int .i64 0, .bool false, .slice none 0 0]
def frCs (bo : Nat) : Array Value := #[.slice (some ⟨bo, 0, none⟩) 1 1, .int .i64 0, .int .i64 0]
def gCs (bf : Nat) (p c : Bool) (u s t v : Int) : Array Value := #[.int .i64 0, .pointer none, .slice (some ⟨bf, 0, none⟩) 1 1, .pointer none, .pointer none, .int .u64 v, .int .i64 u, .int .i64 s, .int .i64 t, .bool c, .bool p, .int .i64 0]

/-- A goroutine at the one run of its one frame. -/
structure GS (w : World) (bo bf bg : Nat) (p c : Bool) (u s t v ce du : Int) : Prop where
  op : Blk w bo (opCs ce du) 96
  fr : Blk w bf (frCs bo) 98
  g : Blk w bg (gCs bf p c u s t v) 101

set_option maxRecDepth 10000 in
set_option maxHeartbeats 1000000 in
theorem newG_any (p c : Bool) (u s t v ce du : Int) (w : World) :
    Calls Try.prog 27 #[.bool p, .bool c, .int .i64 u, .int .i64 s, .int .i64 t, .int .u64 v, .int .i64 ce, .int .i64 du] w fun e w' => e = .returned (.pointer (some ⟨w.heap.size + 1 + 1, 0, none⟩)) ∧
      GS w' w.heap.size (w.heap.size + 1) (w.heap.size + 1 + 1) p c u s t v ce du ∧ Below w.heap.size w w' := by
  go_enter Try.func27, Try.ntmps27
  go_wp2
  go_ret
  refine ⟨rfl, ⟨((Blk.new w (opCs ce du) 96).alloc _).alloc _, ?_, ?_⟩, (((Below.refl _ _).alloc (Nat.le_refl _) _).alloc (by simp) _).alloc (by simp; omega) _⟩
  · have := (Blk.new (w.alloc (.cells (opCs ce du) 96)) (frCs w.heap.size) 98).alloc (.cells (gCs (w.heap.size + 1) p c u s t v) 101)
    rw [show (w.alloc (.cells (opCs ce du) 96)).heap.size = w.heap.size + 1 from by simp] at this
    exact this
  · have := Blk.new ((w.alloc (.cells (opCs ce du) 96)).alloc (.cells (frCs w.heap.size) 98)) (gCs (w.heap.size + 1) p c u s t v) 101
    rw [show ((w.alloc (.cells (opCs ce du) 96)).alloc (.cells (frCs w.heap.size) 98)).heap.size = w.heap.size + 1 + 1 from by simp] at this
    exact this

set_option maxRecDepth 10000 in
set_option maxHeartbeats 1000000 in
theorem op_any {w : World} {bo bf bg : Nat} {p c : Bool} {u s t v ce du : Int} (h : GS w bo bf bg p c u s t v ce du) :
    Calls Try.prog 51 #[.pointer (some ⟨bg, 0, none⟩)] w fun e w' => e = .returned (.pointer (some ⟨bo, 0, none⟩)) ∧ ∃ n, w' = w.drewN n := by
  have g2 := h.g.cellOf (i := 2) (v := .slice (some ⟨bf, 0, none⟩) 1 1) rfl
  have f0 := h.fr.cellOf (i := 0) (v := .slice (some ⟨bo, 0, none⟩) 1 1) rfl
  have f1 := h.fr.cellOf (i := 1) (v := .int .i64 0) rfl
  have o0 := h.op.cellOf (i := 0) (v := .string ⟨#[114, 117, 110]⟩) rfl
  clear h
  go_enter Try.func51, Try.ntmps51
  go_wp2
  refine wp_loop_rounds 1 ?_
  rw [rounds_succ]
  go_wp2
  go_quiet (fail)
  go_wp2
  go_quiet (fail)
  go_wp2
  go_quiet (fail)
  go_wp2
  go_ret
  exact ⟨rfl, _, rfl⟩

theorem gs_drewN {w : World} {bo bf bg : Nat} {p c : Bool} {u s t v ce du : Int} (h : GS w bo bf bg p c u s t v ce du) (n : Nat) : GS (w.drewN n) bo bf bg p c u s t v ce du := ⟨h.op.drewN n, h.fr.drewN n, h.g.drewN n⟩

/-- The mark is set. -/
theorem gs_mark {w : World} {bo bf bg : Nat} {p c : Bool} {u s t v ce du : Int} (h : GS w bo bf bg p c u s t v ce du) (h1 : bg ≠ bo) (h2 : bg ≠ bf) : GS (w.setCell ⟨bg, 10, none⟩ (.bool true)) bo bf bg true c u s t v ce du :=
  ⟨h.op.setOther _ _ _ h1, h.fr.setOther _ _ _ h2, h.g.set 10 (.bool true)⟩

set_option maxHeartbeats 1000000 in
/-- interrupt without async preemption, unless g computes a run that makes calls and was not yet asked. -/
theorem interrupt_coop {w : World} {bs bo bf bg : Nat} {cs : Array Value} {p c : Bool} {u s t v ce du : Int} (hs : Blk w bs cs 88) (h7 : cs[7]? = some (.bool false)) (h : GS w bo bf bg p c u s t v ce du)
    (h1 : bg ≠ bo) (h2 : bg ≠ bf) (h3 : bg ≠ bs) (hc : p = true ∨ c = false ∨ ce ≤ 0) :
    Calls Try.prog 40 #[.pointer (some ⟨bs, 0, none⟩), .pointer (some ⟨bg, 0, none⟩)] w fun e w' => e = .returned (.tuple #[]) ∧ GS w' bo bf bg true c u s t v ce du ∧ Blk w' bs cs 88 ∧ Below bg w w' := by
  have s7 := hs.cellOf h7
  have g10 := h.g.cellOf (i := 10) (v := .bool p) rfl
  have g9 := h.g.cellOf (i := 9) (v := .bool c) rfl
  have o3 := h.op.cellOf (i := 3) (v := .int .i64 ce) rfl
  have hf := h.g.free 10
  have hm := gs_mark h h1 h2
  have hs2 := hs.setOther bg 10 (.bool true) h3
  have hb2 : Below bg w (w.setCell ⟨bg, 10, none⟩ (.bool true)) := (Below.refl bg w).setCell (p := ⟨bg, 10, none⟩) (Nat.le_refl _) _
  have HI : Hid (GS _ _ _ _ _ _ _ _ _ _ _ _ ∧ Blk _ _ _ _ ∧ Below _ _ _) := ⟨hm, hs2, hb2⟩
  have HJ : Hid (GS w bo bf bg p c u s t v ce du ∧ Blk w bs cs 88) := ⟨h, hs⟩
  clear hm hs2 hb2 h hs
  cases p
  · cases c
    · go_enter Try.func40, Try.ntmps40
      go_wp2_with fail
      refine bodyPost_ret (results_none rfl _ _ _) rfl ?_
      exact ⟨rfl, HI.out⟩
    · have hce : ce ≤ 0 := by
        rcases hc with h | h | h
        · cases h
        · cases h
        · exact h
      clear hc
      go_enter Try.func40, Try.ntmps40
      go_wp2_with fail
      refine (op_any HI.out.1).mono ?_
      rintro e w' ⟨rfl, n, rfl⟩
      have o3' := HI.out.1.op.cellOf (i := 3) (v := .int .i64 ce) rfl
      go_wp2_with fail
      go_end0
      exact ⟨rfl, gs_drewN HI.out.1 n, HI.out.2.1.drewN n, below_drewN HI.out.2.2 n⟩
  · go_enter Try.func40, Try.ntmps40
    go_wp2_with fail
    refine bodyPost_ret (results_none rfl _ _ _) rfl ?_
    exact ⟨rfl, HJ.out.1, HJ.out.2, Below.refl _ _⟩

theorem zinterrupt_coop {w : World} {bs bo bf bg : Nat} {cs : Array Value} {p c : Bool} {u s t v ce du : Int} (hs : Blk w bs cs 88) (h7 : cs[7]? = some (.bool false)) (h : GS w bo bf bg p c u s t v ce du)
    (h1 : bg ≠ bo) (h2 : bg ≠ bf) (h3 : bg ≠ bs) (hc : p = true ∨ c = false ∨ ce ≤ 0) :
    Calls Try.prog 28 #[.pointer (some ⟨bs, 0, none⟩), .pointer (some ⟨bg, 0, none⟩)] w fun e w' => e = .returned (.tuple #[]) ∧ GS w' bo bf bg true c u s t v ce du ∧ Blk w' bs cs 88 ∧ Below bg w w' := by
  have hi := interrupt_coop hs h7 h h1 h2 h3 hc
  have HI : Hid (Calls _ _ _ _ _) := hi
  clear hi hs h hc h7
  go_enter Try.func28, Try.ntmps28
  go_wp2_with fail
  refine HI.out.mono ?_
  rintro e w' ⟨rfl, q1, q2, q3⟩
  go_wp2_with fail
  go_end0
  exact ⟨rfl, q1, q2, q3⟩

set_option maxHeartbeats 1000000 in
/-- interrupt with async preemption at the step limit: the run ends there. -/
theorem zinterrupt_async {w : World} {bs bg : Nat} {cs : Array Value} {st : Int} {vr : Value} (hs : Blk w bs cs 88) (h7 : cs[7]? = some (.bool true)) (h1 : cs[30]? = some (.int .i64 st)) (h2 : cs[17]? = some (.int .i64 st)) (h3 : cs[28]? = some vr) :
    Calls Try.prog 28 #[.pointer (some ⟨bs, 0, none⟩), .pointer (some ⟨bg, 0, none⟩)] w fun e w' => e = .returned (.tuple #[]) ∧ ∃ n, w' = (w.drewN n).setCell ⟨bs, 28, none⟩ (.string stepLimit) := by
  have s7 := hs.cellOf h7
  have hst := step_no bs st vr w (hs.cellOf h1) (hs.cellOf h2) (hs.cellOf h3) (hs.free _)
  have HS : Hid (Calls _ _ _ _ _) := hst
  clear hst hs h7 h1 h2 h3
  go_enter Try.func28, Try.ntmps28
  go_wp2_with (first | (go_at_call 39; refine HS.out.mono ?_; rintro e w' ⟨rfl, n, rfl⟩) | go_in)
  refine bodyPost_ret (results_none rfl _ _ _) rfl ?_
  go_wp2_with fail
  refine bodyPost_ret (results_none rfl _ _ _) rfl ?_
  go_wp2_with fail
  go_end0
  exact ⟨rfl, _, rfl⟩

set_option maxHeartbeats 1000000 in
theorem gKept_any {w : World} {bo bf bg : Nat} {p c : Bool} {u s t v ce du : Int} (h : GS w bo bf bg p c u s t v ce du) :
    Calls Try.prog 29 #[.pointer (some ⟨bg, 0, none⟩), .bool p, .bool c, .int .i64 u, .int .i64 s, .int .i64 t, .int .u64 v] w fun e w' => e = .returned (.bool true) ∧ w' = w := by
  have g2 := h.g.cellOf (i := 2) (v := .slice (some ⟨bf, 0, none⟩) 1 1) rfl
  have g5 := h.g.cellOf (i := 5) (v := .int .u64 v) rfl
  have g6 := h.g.cellOf (i := 6) (v := .int .i64 u) rfl
  have g7 := h.g.cellOf (i := 7) (v := .int .i64 s) rfl
  have g8 := h.g.cellOf (i := 8) (v := .int .i64 t) rfl
  have g9 := h.g.cellOf (i := 9) (v := .bool c) rfl
  have g10 := h.g.cellOf (i := 10) (v := .bool p) rfl
  have f1 := h.fr.cellOf (i := 1) (v := .int .i64 0) rfl
  clear h
  go_enter Try.func29, Try.ntmps29
  go_wp2
  go_ret
  exact ⟨rfl, rfl⟩
end Go.Proofs.Qxb6612683a
