/-
  The estimate and its rounds in memory: contracts, and the walk of FnOldestPlaceGoesToNewestKept.
-/
import Derived.Test.Qxb6613080aRows
import Derived.WalkKit
import Derived.WalkSpells
import Derived.WalkLawsBesides
import Derived.Deep.QuietTactic
import Derived.BigQuiet
import Derived.LaidEqlPtr
namespace Go.Proofs.Qxb6613080a
open Go.RowKit

theorem opWp_ok {P : Program} {o : Oper} {a : Act} {w : World} {K : Act → World → Prop} {Q : Exit → Act → World → Prop} (v : Value) (w' : World)
    (h : Sem.run P (execOp a.eval o) w = .ok (Next.value v) w') (hK : K (a.put o.dst v) w') : Oper.wp P o a w K Q := by
  unfold Oper.wp; rw [h]; exact hK

/-- The seventy-two cells of a round, at zero. -/
def roundCs : List Value := [.int .u64 0] ++ List.replicate 64 (.int .u8 0) ++ [.pointer none, .pointer none, .int .u64 0, .int .i64 0, .pointer none, .bool false, .bool false]
/-- The cells of an estimate, at zero. -/
def est0 : Array Value := ((List.replicate 34 roundCs).flatten ++ ([.int .u64 0, .int .u64 0, .map none, .bool false, .bool false, .int .u64 0, .int .i64 0, .pointer none] : List Value)).toArray
/-- The cells of a new estimate. -/
def estCs (cur cnt : Int) : Array Value := (est0.setIfInBounds 2448 (.int .u64 cur)).setIfInBounds 2449 (.int .u64 cnt)
theorem est0_size : est0.size = 2456 := by kernel_rfl
theorem zero43 (w : World) : Sem.run Try.prog (zeroValue 43) w = .ok (.agg est0) w := by kernel_rfl
theorem est_2449 (cur cnt : Int) : (estCs cur cnt)[2449]? = some (.int .u64 cnt) := by
  unfold estCs; rw [Array.getElem?_setIfInBounds_self_of_lt (by simp [est0_size])]

set_option maxRecDepth 100000 in
set_option maxHeartbeats 4000000 in
theorem newEst_any (cur cnt : Int) (w : World) :
    Calls Try.prog 6 #[.int .u64 cur, .int .u64 cnt] w fun e w' => e = .returned (.pointer (some ⟨w.heap.size, 0, none⟩)) ∧ w' = w.alloc (.cells (estCs cur cnt) 43) := by
  have hz := zero43
  have hs := est0_size
  go_enter Try.func6, Try.ntmps6
  go_wp2_with fail
  go_ret
  exact ⟨rfl, rfl⟩

theorem oldest_any (b : Nat) (cnt : Int) (w : World) (h : w.cell? ⟨b, 2449, none⟩ = some (.int .u64 cnt)) (h0 : 32 ≤ cnt) (h1 : cnt ≤ 18446744073709551613) :
    Calls Try.prog 10 #[.pointer (some ⟨b, 0, none⟩)] w fun e w' => e = .returned (.int .u64 (cnt - 32 + 1)) ∧ w' = w := by
  go_enter Try.func10, Try.ntmps10
  go_wp2
  go_ret
  exact ⟨rfl, rfl⟩

theorem round_any (b : Nat) (r : Int) (q : Nat) (w : World) (h0 : 0 ≤ r) (h1 : r ≤ 18446744073709551615) (hq : r % 34 = q) :
    Calls Try.prog 8 #[.pointer (some ⟨b, 0, none⟩), .int .u64 r] w fun e w' => e = .returned (.pointer (some ⟨b, q * 72, none⟩)) ∧ w' = w := by
  have e1 : q = (r % 34).toNat := by omega
  subst e1
  clear hq
  go_enter Try.func8, Try.ntmps8
  go_wp2
  go_ret
  exact ⟨rfl, rfl⟩

theorem slot_any (b j : Nat) (w : World) (h : j < 34) :
    Calls Try.prog 12 #[.pointer (some ⟨b, 0, none⟩), .int .i64 j] w fun e w' => e = .returned (.pointer (some ⟨b, j * 72, none⟩)) ∧ w' = w := by
  go_enter Try.func12, Try.ntmps12
  go_wp2
  go_ret
  exact ⟨rfl, rfl⟩

/-- Block b of the heap: the cells cs, of type t, none frozen. -/
def Blk (w : World) (b : Nat) (cs : Array Value) (t : TypeId) : Prop := w.heap[b]? = some (.cells cs t (0, 0))
theorem Blk.cellOf {w : World} {b : Nat} {cs : Array Value} {t : TypeId} (h : Blk w b cs t) {i : Nat} {v : Value} (hv : cs[i]? = some v) : w.cell? ⟨b, i, none⟩ = some v := by
  unfold Blk at h; simp [World.cell?, h, hv]
theorem Blk.free {w : World} {b : Nat} {cs : Array Value} {t : TypeId} (h : Blk w b cs t) (i : Nat) : w.frozen? ⟨b, i, none⟩ = false := by
  unfold Blk at h; simp [World.frozen?, h]
theorem Blk.new (w : World) (cs : Array Value) (t : TypeId) : Blk (w.alloc (.cells cs t)) w.heap.size cs t := by
  show (w.heap.push _)[w.heap.size]? = _
  simp
theorem Blk.alloc {w : World} {b : Nat} {cs : Array Value} {t : TypeId} (h : Blk w b cs t) (o : Obj) : Blk (w.alloc o) b cs t := by
  unfold Blk at h ⊢
  have hb : b < w.heap.size := by
    by_cases hb : b < w.heap.size
    · exact hb
    · rw [Array.getElem?_eq_none (by omega)] at h; cases h
  show (w.heap.push o)[b]? = _
  rw [Array.getElem?_push, if_neg (by omega)]; exact h
theorem Blk.setOther {w : World} {b : Nat} {cs : Array Value} {t : TypeId} (h : Blk w b cs t) (b' i : Nat) (v : Value) (hne : b' ≠ b) : Blk (w.setCell ⟨b', i, none⟩ v) b cs t := by
  unfold Blk at h ⊢
  simp only [World.setCell, Array.getElem?_modify, h, if_neg hne]
theorem Blk.lt {w : World} {b : Nat} {cs : Array Value} {t : TypeId} (h : Blk w b cs t) : b < w.heap.size := by
  unfold Blk at h
  by_cases hb : b < w.heap.size
  · exact hb
  · rw [Array.getElem?_eq_none (by omega)] at h; cases h
theorem Blk.set {w : World} {b : Nat} {cs : Array Value} {t : TypeId} (h : Blk w b cs t) (i : Nat) (v : Value) : Blk (w.setCell ⟨b, i, none⟩ v) b (cs.setIfInBounds i v) t := by
  unfold Blk at h ⊢
  simp only [World.setCell, Array.getElem?_modify, h, if_true, Option.map_some]
  rfl

theorem infoTE : (Try.prog.info? 39).map (fun i => i.size) = some 72 := by kernel_rfl
theorem same_ptr (w : World) (a : Addr) : (binOp .eql 26 (.pointer (some a)) (.pointer (some a))).run Try.prog w = .ok (.bool true) w := by
  obtain ⟨j, hj, _⟩ := Option.map_eq_some_iff.1 infoTE
  exact run_eql_ptr_same w a Try.underlying26 hj
theorem other_ptr {w : World} {b : Nat} {cs : Array Value} {t : TypeId} (h : Blk w b cs t) {i j : Nat} (hne : i ≠ j) :
    (binOp .eql 26 (.pointer (some ⟨b, i, none⟩)) (.pointer (some ⟨b, j, none⟩))).run Try.prog w = .ok (.bool false) w := by
  obtain ⟨q, hq, hs⟩ := Option.map_eq_some_iff.1 infoTE
  exact run_eql_ptr_other w Try.underlying26 hq (by omega) (by intro e; cases e; exact hne rfl) h h

set_option maxHeartbeats 1000000 in
theorem isSlot_any (b q : Nat) (cs : Array Value) (w : World) (hB : Blk w b cs 43) (hq : q < 34) :
    Calls Try.prog 9 #[.pointer (some ⟨b, 0, none⟩), .pointer (some ⟨b, q * 72, none⟩)] w fun e w' => e = .returned (.bool true) ∧ w' = w := by
  have HB : Hid (Blk w b cs 43) := hB
  clear hB
  go_enter Try.func9, Try.ntmps9
  go_wp2_with fail
  go_loop [5] (fun i => ∃ j : Nat, j ≤ q ∧ i = .int .i64 j) (fun i => q - (intOf i).toNat)
  case atStart => exact ⟨0, Nat.zero_le _, rfl⟩
  case round =>
    obtain ⟨j, hj, rfl⟩ := hrel
    have hj2 : (j : Int) < 34 := by omega
    by_cases e : j = q
    · subst e
      have hsame := same_ptr w ⟨b, j * 72, none⟩
      go_wp2_with fail
      refine (slot_any b j _ hq).mono ?_
      rintro e w' ⟨rfl, hw'⟩
      subst hw'
      go_wp2_with fail
      go_ret
      exact ⟨rfl, rfl⟩
    · have hother := other_ptr HB.out (show j * 72 ≠ q * 72 by omega)
      go_wp2_with fail
      refine (slot_any b j _ (by omega)).mono ?_
      rintro e w' ⟨rfl, hw'⟩
      subst hw'
      go_wp2_with fail
      go_round
      case rel => exact ⟨j + 1, by omega, by go_num⟩
      case measure => simp [intOf]; omega

/-- The place of round o + j. -/
def place (b o j : Nat) : Value := .pointer (some ⟨b, (o + j) % 34 * 72, none⟩)

set_option maxHeartbeats 1000000 in
theorem window_any (b o : Nat) (cs : Array Value) (w : World) (hB : Blk w b cs 43) (ho : o + 33 ≤ 18446744073709551615) :
    Calls Try.prog 7 #[.pointer (some ⟨b, 0, none⟩), .int .u64 o] w fun e w' => e = .returned (.bool true) ∧ Below w.heap.size w w' := by
  have HB : Hid (Blk w b cs 43) := hB
  have hlt := hB.lt
  clear hB
  go_enter Try.func7, Try.ntmps7
  go_wp2_with fail
  have hB1 : Hid (∀ o, Blk (w.alloc o) b cs 43) := fun o => HB.out.alloc o
  have hb1 : Hid (∀ o, Below w.heap.size w (w.alloc o)) := fun o => (Below.refl _ _).alloc (Nat.le_refl _) _
  go_loopw [6] (fun i wr => ∃ k : Nat, k ≤ 34 ∧ i = .int .i64 k ∧ (∃ ps, Blk wr w.heap.size ps 44 ∧ ps.size = 34 ∧ ∀ j, j < k → ps[j]? = some (place b o j)) ∧ Blk wr b cs 43 ∧ Below w.heap.size w wr) (fun i _ => 34 - (intOf i).toNat)
  case atStart => exact ⟨0, by omega, rfl, ⟨_, Blk.new _ _ _, rfl, fun j hj => absurd hj (Nat.not_lt_zero _)⟩, hB1.out _, hb1.out _⟩
  case round =>
    clear hB1 hb1
    obtain ⟨k, hk, rfl, ⟨ps, hP, hs, hpj⟩, hB, hbel⟩ := hrel
    by_cases hlt2 : k < 34
    · obtain ⟨q, hq⟩ : ∃ q, q = (o + k) % 34 := ⟨_, rfl⟩
      have hq34 : q < 34 := by omega
      have hk2 : (k : Int) < 34 := by omega
      have hok : (o : Int) + (k : Int) ≤ 18446744073709551615 := by omega
      have HI : Hid (Blk wr w.heap.size ps 44 ∧ ps.size = 34 ∧ (∀ j, j < k → ps[j]? = some (place b o j)) ∧ Blk wr b cs 43) := ⟨hP, hs, hpj, hB⟩
      have HQ : Hid (q = (o + k) % 34) := hq
      clear hP hs hpj hB hq
      go_wp2_with fail
      refine (round_any b _ q _ (by omega) hok (by have := HQ.out; omega)).mono ?_
      rintro e w3 ⟨rfl, hw3⟩
      subst hw3
      go_wp2_with fail
      refine (isSlot_any b q cs _ HI.out.2.2.2 hq34).mono ?_
      rintro e w3 ⟨rfl, hw3⟩
      subst hw3
      go_wp2_with fail
      go_loop [8] (fun i => ∃ j : Nat, j ≤ k ∧ i = .int .i64 j) (fun i => k - (intOf i).toNat)
      case atStart => exact ⟨0, Nat.zero_le _, rfl⟩
      case round =>
        obtain ⟨j, hj, rfl⟩ := hrel
        by_cases hjk : j < k
        · have c0 := HI.out.1.cellOf (HI.out.2.2.1 j hjk)
          have hjk2 : (j : Int) < (k : Int) := by omega
          have hj34 : (j : Int) < 34 := by omega
          have hother := other_ptr HI.out.2.2.2 (show (o + j) % 34 * 72 ≠ q * 72 by have := HQ.out; omega)
          unfold place at c0
          generalize (o + j) % 34 * 72 = ad at *
          go_wp2_with fail
          go_round
          case rel => exact ⟨j + 1, by omega, by go_num⟩
          case measure => simp [intOf]; omega
        · obtain ⟨v0, hv0⟩ : ∃ v, ps[k]? = some v := ⟨ps[k]'(by have := HI.out.2.1; omega), by simp⟩
          have c0 := HI.out.1.cellOf hv0
          have cf := HI.out.1.free k
          have HE : Hid ((∃ ps, Blk (w3.setCell ⟨w.heap.size, k, none⟩ (.pointer (some ⟨b, q * 72, none⟩))) w.heap.size ps 44 ∧ ps.size = 34 ∧ ∀ j, j < k + 1 → ps[j]? = some (place b o j)) ∧ Blk (w3.setCell ⟨w.heap.size, k, none⟩ (.pointer (some ⟨b, q * 72, none⟩))) b cs 43 ∧ Below w.heap.size w (w3.setCell ⟨w.heap.size, k, none⟩ (.pointer (some ⟨b, q * 72, none⟩)))) := by
            obtain ⟨hP, hs, hpj, hB⟩ := HI.out
            refine ⟨⟨_, hP.set _ _, by simpa using hs, fun j hj => ?_⟩, hB.setOther _ _ _ (by omega), hbel.setCell (p := ⟨w.heap.size, k, none⟩) (Nat.le_refl _) _⟩
            by_cases e : j = k
            · subst e
              rw [Array.getElem?_setIfInBounds_self_of_lt (by omega)]
              unfold place
              rw [← HQ.out]
            · rw [Array.getElem?_setIfInBounds_ne (Ne.symm e)]; exact hpj j (by omega)
          clear hv0 HI
          go_wp2_with fail
          go_roundw
          case rel => exact ⟨k + 1, by omega, by go_num, HE.out.1, HE.out.2.1, HE.out.2.2⟩
          case measure => simp [intOf]; omega
    · go_wp2_with fail
      go_ret
      exact ⟨rfl, hbel⟩

theorem wrap_back (o : Nat) (h : o + 31 ≤ 18446744073709551613) : (IntKind.u64.wrap (IntKind.u64.wrap ((o : Int) + 34) - 1) != (o : Int) + 31 + 2) = false := by
  rw [bne_eq_false_iff_eq, IntKind.wrap_u64, IntKind.wrap_u64]
  omega

set_option maxHeartbeats 1000000 in
theorem law_in (cur : Int) (cnt : Nat) (w : World) (h0 : 32 ≤ cnt) (h1 : cnt ≤ 18446744073709551613) :
    Calls Try.prog 5 #[.int .u64 cur, .int .u64 cnt] w fun e w' => e = .returned (.bool true) ∧ Below w.heap.size w w' := by
  obtain ⟨o, rfl⟩ : ∃ o, cnt = o + 31 := ⟨cnt - 31, by omega⟩
  have hwb := wrap_back o (by omega)
  go_enter Try.func5, Try.ntmps5
  go_wp2_with fail
  refine (newEst_any _ _ _).mono ?_
  rintro e w1 ⟨rfl, rfl⟩
  have hB := Blk.new w (estCs cur ((o : Int) + 31)) 43
  have hb1 : Below w.heap.size w (w.alloc (.cells (estCs cur ((o : Int) + 31)) 43)) := (Below.refl _ _).alloc (Nat.le_refl _) _
  have hc := hB.cellOf (est_2449 cur ((o : Int) + 31))
  have hlt := hB.lt
  generalize w.alloc (.cells (estCs cur ((o : Int) + 31)) 43) = W1 at *
  have HB : Hid (Blk W1 w.heap.size (estCs cur ((o : Int) + 31)) 43) := hB
  clear hB
  generalize estCs cur ((o : Int) + 31) = cs at *
  go_wp2_with fail
  refine (oldest_any _ _ _ hc (by omega) (by omega)).mono ?_
  rintro e w2 ⟨rfl, hw2⟩
  subst hw2
  rw [show (o : Int) + 31 - 32 + 1 = (o : Int) from by omega]
  go_wp2_with fail
  refine (window_any w.heap.size o cs _ HB.out (by omega)).mono ?_
  rintro e w3 ⟨rfl, hb3⟩
  have hbel3 : Below w.heap.size w w3 := hb1.trans (hb3.mono (by omega))
  have ho1 : (1 : Int) ≤ (o : Int) := by omega
  clear hc hb1 hb3 HB
  have hsame := same_ptr w3 ⟨w.heap.size, (o - 1) % 34 * 72, none⟩
  go_wp2_with fail
  refine (round_any w.heap.size _ ((o - 1) % 34) _ (by omega) (by omega) (by omega)).mono ?_
  rintro e w4 ⟨rfl, hw4⟩
  subst hw4
  go_wp2_with fail
  refine (round_any w.heap.size _ ((o - 1) % 34) _ (by omega) (by omega) (by omega)).mono ?_
  rintro e w5 ⟨rfl, hw5⟩
  subst hw5
  go_wp2_with fail
  go_ret
  exact ⟨rfl, hbel3⟩
end Go.Proofs.Qxb6613080a
