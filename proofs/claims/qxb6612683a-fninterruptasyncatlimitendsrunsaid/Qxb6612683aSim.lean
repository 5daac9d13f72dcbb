/-
  What the small functions over a sim do: step, stopSpinning, the readers.
-/
import Derived.Test.Qxb6612683aSimNew
namespace Go.Proofs.Qxb6612683a
open Go.RowKit

/-! ### step -/
def stepLimit : ByteArray := ⟨#[115, 116, 101, 112, 45, 108, 105, 109, 105, 116]⟩

set_option maxHeartbeats 400000 in
theorem step_no (b : Nat) (st : Int) (v : Value) (w : World) (h1 : w.cell? ⟨b, 30, none⟩ = some (.int .i64 st)) (h2 : w.cell? ⟨b, 17, none⟩ = some (.int .i64 st))
    (h3 : w.cell? ⟨b, 28, none⟩ = some v) (hf : w.frozen? ⟨b, 28, none⟩ = false) :
    Calls Try.prog 39 #[.pointer (some ⟨b, 0, none⟩)] w fun e w' => e = .returned (.bool false) ∧ ∃ n, w' = (w.drewN n).setCell ⟨b, 28, none⟩ (.string stepLimit) := by
  go_enter Try.func39, Try.ntmps39
  go_wp2
  go_quiet (fail)
  go_wp2
  go_ret
  exact ⟨rfl, _, rfl⟩

set_option maxHeartbeats 400000 in
theorem step_yes (b : Nat) (st ms : Int) (w : World) (h1 : w.cell? ⟨b, 30, none⟩ = some (.int .i64 st)) (h2 : w.cell? ⟨b, 17, none⟩ = some (.int .i64 ms)) (hf : w.frozen? ⟨b, 30, none⟩ = false)
    (hne : (st == ms) = false) :
    Calls Try.prog 39 #[.pointer (some ⟨b, 0, none⟩)] w fun e w' => e = .returned (.bool true) ∧ ∃ n, w' = (w.drewN n).setCell ⟨b, 30, none⟩ (.int .i64 (wrap64 (st + 1))) := by
  go_enter Try.func39, Try.ntmps39
  go_wp2
  go_quiet (fail)
  go_wp2
  go_ret
  exact ⟨rfl, _, rfl⟩

/-- ZZStep: refused. -/
theorem zstep_no {w : World} {b : Nat} {cs : Array Value} (h : Blk w b cs 88) {st : Int} {v : Value} (h1 : cs[30]? = some (.int .i64 st)) (h2 : cs[17]? = some (.int .i64 st)) (h3 : cs[28]? = some v) :
    Calls Try.prog 24 #[.pointer (some ⟨b, 0, none⟩)] w fun e w' => e = .returned (.bool false) ∧ Blk w' b (cs.setIfInBounds 28 (.string stepLimit)) 88 ∧ Below b w w' := by
  go_enter Try.func24, Try.ntmps24
  go_wp2_with fail
  refine (step_no b st v _ (h.cellOf h1) (h.cellOf h2) (h.cellOf h3) (h.free _)).mono ?_
  rintro e w' ⟨rfl, n, rfl⟩
  go_wp2_with fail
  go_ret
  exact ⟨rfl, (h.drewN n).set _ _, (below_drewN (Below.refl b w) n).setCell (p := ⟨b, _, none⟩) (Nat.le_refl b) _⟩

/-- ZZStep: a step more. -/
theorem zstep_yes {w : World} {b : Nat} {cs : Array Value} (h : Blk w b cs 88) {st ms : Int} (h1 : cs[30]? = some (.int .i64 st)) (h2 : cs[17]? = some (.int .i64 ms)) (hne : st ≠ ms) :
    Calls Try.prog 24 #[.pointer (some ⟨b, 0, none⟩)] w fun e w' => e = .returned (.bool true) ∧ Blk w' b (cs.setIfInBounds 30 (.int .i64 (wrap64 (st + 1)))) 88 ∧ Below b w w' := by
  go_enter Try.func24, Try.ntmps24
  go_wp2_with fail
  refine (step_yes b st ms _ (h.cellOf h1) (h.cellOf h2) (h.free _) (beq_eq_false_iff_ne.2 hne)).mono ?_
  rintro e w' ⟨rfl, n, rfl⟩
  go_wp2_with fail
  go_ret
  exact ⟨rfl, (h.drewN n).set _ _, (below_drewN (Below.refl b w) n).setCell (p := ⟨b, _, none⟩) (Nat.le_refl b) _⟩

/-! ### what is read off a sim -/
theorem simSteps_any (b : Nat) (st : Int) (w : World) (h : w.cell? ⟨b, 30, none⟩ = some (.int .i64 st)) :
    Calls Try.prog 25 #[.pointer (some ⟨b, 0, none⟩)] w fun e w' => e = .returned (.int .i64 st) ∧ w' = w := by
  go_enter Try.func25, Try.ntmps25
  go_wp2
  go_ret
  exact ⟨rfl, rfl⟩
theorem simReason_any (b : Nat) (s : ByteArray) (w : World) (h : w.cell? ⟨b, 28, none⟩ = some (.string s)) :
    Calls Try.prog 26 #[.pointer (some ⟨b, 0, none⟩)] w fun e w' => e = .returned (.string s) ∧ w' = w := by
  go_enter Try.func26, Try.ntmps26
  go_wp2
  go_ret
  exact ⟨rfl, rfl⟩
theorem simSpinning_any (b : Nat) (sp : Int) (w : World) (h : w.cell? ⟨b, 44, none⟩ = some (.int .i64 sp)) :
    Calls Try.prog 21 #[.pointer (some ⟨b, 0, none⟩)] w fun e w' => e = .returned (.int .i64 sp) ∧ w' = w := by
  go_enter Try.func21, Try.ntmps21
  go_wp2
  go_ret
  exact ⟨rfl, rfl⟩
theorem simPreemptions_any (b : Nat) (n : Int) (w : World) (h : w.cell? ⟨b, 48, none⟩ = some (.int .i64 n)) :
    Calls Try.prog 30 #[.pointer (some ⟨b, 0, none⟩)] w fun e w' => e = .returned (.int .i64 n) ∧ w' = w := by
  go_enter Try.func30, Try.ntmps30
  go_wp2
  go_ret
  exact ⟨rfl, rfl⟩
theorem simSeq_any (b : Nat) (n : Int) (w : World) (h : w.cell? ⟨b, 23, none⟩ = some (.int .u64 n)) :
    Calls Try.prog 31 #[.pointer (some ⟨b, 0, none⟩)] w fun e w' => e = .returned (.int .u64 n) ∧ w' = w := by
  go_enter Try.func31, Try.ntmps31
  go_wp2
  go_ret
  exact ⟨rfl, rfl⟩
theorem simEventsLen_any (b : Nat) (w : World) (h : w.cell? ⟨b, 22, none⟩ = some (.slice none 0 0)) :
    Calls Try.prog 32 #[.pointer (some ⟨b, 0, none⟩)] w fun e w' => e = .returned (.int .i64 0) ∧ w' = w := by
  go_enter Try.func32, Try.ntmps32
  go_wp2
  go_ret
  exact ⟨rfl, rfl⟩

/-! ### stopSpinning -/
theorem cell_setOther (w : World) (b i c j : Nat) (v : Value) (hne : b ≠ c) : (w.setCell ⟨b, i, none⟩ v).cell? ⟨c, j, none⟩ = w.cell? ⟨c, j, none⟩ := by
  simp only [World.cell?, World.setCell, Array.getElem?_modify, if_neg hne]
theorem zstop_no (bs bm : Nat) (w : World) (h : w.cell? ⟨bm, 0, none⟩ = some (.bool false)) :
    Calls Try.prog 19 #[.pointer (some ⟨bs, 0, none⟩), .pointer (some ⟨bm, 0, none⟩)] w fun e w' => e = .returned (.bool false) ∧ w' = w := by
  go_enter Try.func19, Try.ntmps19
  go_wp2
  go_ret
  exact ⟨rfl, rfl⟩
theorem zstop_yes (bs bm : Nat) (sp : Int) (w : World) (hne : bs ≠ bm) (h : w.cell? ⟨bm, 0, none⟩ = some (.bool true)) (hf : w.frozen? ⟨bm, 0, none⟩ = false)
    (h2 : w.cell? ⟨bs, 44, none⟩ = some (.int .i64 sp)) (hf2 : w.frozen? ⟨bs, 44, none⟩ = false) :
    Calls Try.prog 19 #[.pointer (some ⟨bs, 0, none⟩), .pointer (some ⟨bm, 0, none⟩)] w fun e w' => e = .returned (.bool true) ∧
      w' = (w.setCell ⟨bm, 0, none⟩ (.bool false)).setCell ⟨bs, 44, none⟩ (.int .i64 (wrap64 (sp - 1))) := by
  have h2' : (w.setCell ⟨bm, 0, none⟩ (.bool false)).cell? ⟨bs, 44, none⟩ = some (.int .i64 sp) := by
    rw [cell_setOther w bm 0 bs 44 _ (Ne.symm hne)]; exact h2
  go_enter Try.func19, Try.ntmps19
  go_wp2
  go_ret
  exact ⟨rfl, rfl⟩
theorem newThread_any (m : Bool) (w : World) :
    Calls Try.prog 18 #[.bool m] w fun e w' => e = .returned (.pointer (some ⟨w.heap.size, 0, none⟩)) ∧ w' = w.alloc (.cells #[.bool m] 90) := by
  go_enter Try.func18, Try.ntmps18
  go_wp2
  go_ret
  exact ⟨rfl, rfl⟩
theorem threadSpinning_any (b : Nat) (m : Bool) (w : World) (h : w.cell? ⟨b, 0, none⟩ = some (.bool m)) :
    Calls Try.prog 20 #[.pointer (some ⟨b, 0, none⟩)] w fun e w' => e = .returned (.bool m) ∧ w' = w := by
  go_enter Try.func20, Try.ntmps20
  go_wp2
  go_ret
  exact ⟨rfl, rfl⟩
end Go.Proofs.Qxb6612683a
