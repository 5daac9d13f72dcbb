/-
  Contracts of the small functions over the event queue: ZZPushEvent, the readers, evLess, buildQueue, readQueue.
-/
import Derived.Test.Qxb6612683aPush
import Derived.Deep.RegionWith
import Derived.Deep.OwnRows
namespace Go.Proofs.Qxb6612683a
open Go.RowKit

set_option maxHeartbeats 400000 in
theorem zpush_any (bq n : Nat) (h : Nat → Int × Int) (k : Int × Int) (w : World) (hq : Q w bq n h) (hn : n ≤ 65536) :
    Calls Try.prog 16 #[.pointer (some ⟨bq, 0, none⟩), .int .i64 k.1, .int .u64 k.2] w fun e w' => e = .returned (.tuple #[]) ∧ Q w' bq (n + 1) (pushK h n k) ∧ Below bq w w' ∧ Keeps w w' := by
  have HQ : Hid (Q _ _ _ _) := hq
  clear hq
  go_enter Try.func16, Try.ntmps16
  go_wp2_with fail
  refine (push_any bq n h k _ HQ.out hn).mono ?_
  rintro e w' ⟨rfl, h1, h2, h3⟩
  go_wp2_with fail
  go_end0
  exact ⟨rfl, h1, h2, h3⟩

theorem newQueue_any (w : World) :
    Calls Try.prog 33 #[] w fun e w' => e = .returned (.pointer (some ⟨w.heap.size, 0, none⟩)) ∧ w' = w.alloc (.cells #[.slice none 0 0] 74) := by
  go_enter Try.func33, Try.ntmps33
  go_wp2
  go_ret
  exact ⟨rfl, rfl⟩

theorem queueLen_any (bq n : Nat) (h : Nat → Int × Int) (w : World) (hq : Q w bq n h) :
    Calls Try.prog 34 #[.pointer (some ⟨bq, 0, none⟩)] w fun e w' => e = .returned (.int .i64 n) ∧ w' = w := by
  obtain ⟨ao, cap, xs, hb, _⟩ := q_owns hq
  have hc0 : w.cell? ⟨bq, 0, none⟩ = some (.slice ao n cap) := hb.cellOf rfl
  clear hq hb
  go_enter Try.func34, Try.ntmps34
  go_wp2
  go_ret
  exact ⟨rfl, rfl⟩

theorem eventAt_any (bq n i : Nat) (h : Nat → Int × Int) (w : World) (hq : Q w bq n h) (hi : i < n) :
    Calls Try.prog 35 #[.pointer (some ⟨bq, 0, none⟩), .int .i64 i] w fun e w' => e = .returned (.int .i64 (h i).1) ∧ w' = w := by
  rcases hq with ⟨h0, _⟩ | ⟨g, cap, hQ⟩
  · omega
  obtain ⟨a0, a1, _, _, _⟩ := qv_cells hQ hi
  have hc0 : w.cell? ⟨bq, 0, none⟩ = some (.slice (some ⟨g, 0, none⟩) n cap) := hQ.1.cellOf rfl
  clear hQ
  go_enter Try.func35, Try.ntmps35
  go_wp2
  go_ret
  exact ⟨rfl, rfl⟩

theorem eventSeq_any (bq n i : Nat) (h : Nat → Int × Int) (w : World) (hq : Q w bq n h) (hi : i < n) :
    Calls Try.prog 36 #[.pointer (some ⟨bq, 0, none⟩), .int .i64 i] w fun e w' => e = .returned (.int .u64 (h i).2) ∧ w' = w := by
  rcases hq with ⟨h0, _⟩ | ⟨g, cap, hQ⟩
  · omega
  obtain ⟨a0, a1, _, _, _⟩ := qv_cells hQ hi
  have hc0 : w.cell? ⟨bq, 0, none⟩ = some (.slice (some ⟨g, 0, none⟩) n cap) := hQ.1.cellOf rfl
  clear hQ
  go_enter Try.func36, Try.ntmps36
  go_wp2
  go_ret
  exact ⟨rfl, rfl⟩

theorem evLess_any (a b : Int × Int) (w : World) :
    Calls Try.prog 13 #[.agg #[.int .i64 a.1, .int .u64 a.2], .agg #[.int .i64 b.1, .int .u64 b.2]] w fun e w' => e = .returned (.bool (kLess a b)) ∧
      w' = (w.alloc (.cells #[.int .i64 a.1, .int .u64 a.2] 30)).alloc (.cells #[.int .i64 b.1, .int .u64 b.2] 30) := by
  obtain ⟨a1, a2⟩ := a
  obtain ⟨b1, b2⟩ := b
  simp only
  by_cases c : a1 = b1
  · have d : (a1 != b1) = false := by simp [c]
    have e1 : kLess (a1, a2) (b1, b2) = decide (a2 < b2) := by simp [kLess, c]
    rw [e1]
    clear c e1
    go_enter Try.func13, Try.ntmps13
    go_wp2
    go_ret
    exact ⟨rfl, rfl⟩
  · have d : (a1 != b1) = true := by simp [c]
    have e1 : kLess (a1, a2) (b1, b2) = decide (a1 < b1) := by simp [kLess, c]
    rw [e1]
    clear c e1
    go_enter Try.func13, Try.ntmps13
    go_wp2
    go_ret
    exact ⟨rfl, rfl⟩

theorem q_drew {w : World} {bq n : Nat} {h : Nat → Int × Int} (hq : Q w bq n h) : Q w.drew bq n h := hq

/-- What the walk is told of a slice of keys. -/
def Row2 (w : World) (a : Option Addr) (len : Nat) (K : Nat → Int × Int) : Prop :=
  ∀ i, i < len → ∃ b off, a = some ⟨b, off, none⟩ ∧ b < w.heap.size ∧ w.cell? ⟨b, off + i * 2, none⟩ = some (.int .i64 (K i).1) ∧ w.cell? ⟨b, off + i * 2 + 1, none⟩ = some (.int .u64 (K i).2)

/-- The queue behind pushes of K 0, .., K (n-1). -/
def builtK (K : Nat → Int × Int) : Nat → Nat → Int × Int
  | 0 => fun _ => (0, 0)
  | i + 1 => pushK (builtK K i) i (K i)

set_option maxHeartbeats 1000000 in
theorem build_any (a : Option Addr) (len cap : Nat) (K : Nat → Int × Int) (w : World) (hr : Row2 w a len K) (hn : len ≤ 65536) :
    Calls Try.prog 11 #[.slice a len cap] w fun e w' => e = .returned (.pointer (some ⟨w.heap.size, 0, none⟩)) ∧ Q w' w.heap.size len (builtK K len) ∧ Below w.heap.size w w' := by
  go_enter Try.func11, Try.ntmps11
  go_wp2_with fail
  refine (newQueue_any _).mono ?_
  rintro e w1 ⟨rfl, rfl⟩
  go_wp2_with fail
  have hq0 : Q (w.alloc (.cells #[.slice none 0 0] 74)) w.heap.size 0 (builtK K 0) := .inl ⟨rfl, Blk.new _ _ _⟩
  have hb0 : Below w.heap.size w (w.alloc (.cells #[.slice none 0 0] 74)) := (Below.refl _ _).alloc (Nat.le_refl _) _
  go_loopw [4] (fun i wr => ∃ t : Nat, t ≤ len ∧ i = .int .i64 t ∧ Q wr w.heap.size t (builtK K t) ∧ Below w.heap.size w wr) (fun i _ => len - (intOf i).toNat)
  case atStart => exact ⟨0, Nat.zero_le _, rfl, hq0, hb0⟩
  case round =>
    clear hq0 hb0
    obtain ⟨t, ht, rfl, hq, hbel⟩ := hrel
    by_cases hlt : t < len
    · obtain ⟨b, off, rfl, hb, c0, c1⟩ := hr t hlt
      rw [← hbel.cell (p := ⟨b, off + t * 2, none⟩) hb] at c0
      rw [← hbel.cell (p := ⟨b, off + t * 2 + 1, none⟩) hb] at c1
      have hlt2 : (t : Int) < (len : Int) := by omega
      have HQ : Hid (Q _ _ _ _) := hq
      clear hq
      go_wp2_with fail
      go_region_with (go_at_call 16; refine (zpush_any w.heap.size t (builtK K t) (K t) _ (q_drew HQ.out) (by omega)).mono ?_; rintro e w2 ⟨rfl, h1, h2, h3⟩)
      all_goals
        have hb2 := hbel.drew.trans h2
        clear hbel h2 h3 c0 c1
        go_wp2_with fail
        go_roundw
        case rel => exact ⟨t + 1, by omega, by go_num, h1, hb2⟩
        case measure => simp [intOf]; omega
    · obtain rfl : t = len := by omega
      go_wp2_with fail
      go_ret
      exact ⟨rfl, hq, hbel⟩

theorem q_below {w w' : World} {bq n : Nat} {h : Nat → Int × Int} (hq : Q w bq n h) (hb : Below w.heap.size w w') : Q w' bq n h := by
  rcases hq with ⟨h0, h1⟩ | ⟨g, cap, h1, hg, cur, hc, hr⟩
  · exact .inl ⟨h0, h1.below hb h1.lt⟩
  · exact .inr ⟨g, cap, h1.below hb h1.lt, hg, cur, hc.below hb hc.lt, hr⟩

/-- The first n keys in the cells of a row. -/
def KRow (cs : Array Value) (n : Nat) (h : Nat → Int × Int) : Prop := ∀ j, j < n → cs[j * 2]? = some (.int .i64 (h j).1) ∧ cs[j * 2 + 1]? = some (.int .u64 (h j).2)

theorem krow_set {cs : Array Value} {n : Nat} {h : Nat → Int × Int} (hr : KRow cs n h) {j : Nat} (k : Int × Int) (hs : j * 2 + 1 < cs.size) :
    KRow ((cs.setIfInBounds (j * 2) (.int .i64 k.1)).setIfInBounds (j * 2 + 1) (.int .u64 k.2)) n (upd h j k) := by
  intro i hi
  by_cases e : i = j
  · subst e
    have hu : upd h i k i = k := by simp [upd]
    rw [hu]
    exact ⟨by rw [Array.getElem?_setIfInBounds_ne (by omega), Array.getElem?_setIfInBounds_self_of_lt (by omega)], by rw [Array.getElem?_setIfInBounds_self_of_lt (by simp; omega)]⟩
  · have hu : upd h j k i = h i := by simp [upd, e]
    rw [hu]
    exact ⟨by rw [Array.getElem?_setIfInBounds_ne (by omega), Array.getElem?_setIfInBounds_ne (by omega)]; exact (hr i hi).1, by rw [Array.getElem?_setIfInBounds_ne (by omega), Array.getElem?_setIfInBounds_ne (by omega)]; exact (hr i hi).2⟩

/-- One key more. -/
theorem krow_next {cs : Array Value} {n : Nat} {h : Nat → Int × Int} (hr : KRow cs n h) (hs : n * 2 + 1 < cs.size) :
    KRow ((cs.setIfInBounds (n * 2) (.int .i64 (h n).1)).setIfInBounds (n * 2 + 1) (.int .u64 (h n).2)) (n + 1) h := by
  intro i hi
  by_cases e : i = n
  · subst e
    exact ⟨by rw [Array.getElem?_setIfInBounds_ne (by omega), Array.getElem?_setIfInBounds_self_of_lt (by omega)], by rw [Array.getElem?_setIfInBounds_self_of_lt (by simp; omega)]⟩
  · exact ⟨by rw [Array.getElem?_setIfInBounds_ne (by omega), Array.getElem?_setIfInBounds_ne (by omega)]; exact (hr i (by omega)).1, by rw [Array.getElem?_setIfInBounds_ne (by omega), Array.getElem?_setIfInBounds_ne (by omega)]; exact (hr i (by omega)).2⟩

theorem info30 : (Try.prog.info? 30).map (fun i => (i.zero, i.size, i.bytes)) = some (some (.agg #[.int .i64 0, .int .u64 0]), 2, 16) := by kernel_rfl

theorem make30 (n : Nat) (hn : n ≤ 65537) (w : World) : (Instr.makeSlice 22 (.int .i64 n) (.int .i64 n)).run Try.prog w = .ok (.slice (some ⟨w.heap.size, 0, none⟩) n n) (w.alloc (.cells (madeCells #[.int .i64 0, .int .u64 0] (n * 2)) 30)) := by
  obtain ⟨i0, hi, hz0, hz1, hz2⟩ := info_parts info30
  have := run_make (P := Try.prog) w 22 30 i0 _ Try.underlying22 hi hz0 .i64 .i64 n n (by omega) (by omega) (by rw [hz2]; omega) (by omega)
  rw [hz1, Int.toNat_natCast] at this
  exact this

set_option maxHeartbeats 1000000 in
theorem read_any (bq n : Nat) (h : Nat → Int × Int) (w : World) (hq : Q w bq n h) (hn : n ≤ 65537) :
    Calls Try.prog 12 #[.pointer (some ⟨bq, 0, none⟩)] w fun e w' => e = .returned (.slice (some ⟨w.heap.size, 0, none⟩) n n) ∧ (∃ cs, Blk w' w.heap.size cs 30 ∧ cs.size = n * 2 ∧ KRow cs n h) ∧ Below w.heap.size w w' := by
  have HQ : Hid (Q _ _ _ _) := hq
  clear hq
  have hmk := make30 n hn
  go_enter Try.func12, Try.ntmps12
  go_wp2_with fail
  refine (queueLen_any bq n h _ HQ.out).mono ?_
  rintro e w ⟨rfl, rfl⟩
  go_wp2_with fail
  have hb0 : Below w.heap.size w (w.alloc (.cells (madeCells #[.int .i64 0, .int .u64 0] (n * 2)) 30)) := (Below.refl _ _).alloc (Nat.le_refl _) _
  have hB0 : Hid (Blk (w.alloc (.cells (madeCells #[.int .i64 0, .int .u64 0] (n * 2)) 30)) w.heap.size (madeCells #[.int .i64 0, .int .u64 0] (n * 2)) 30) := Blk.new _ _ _
  clear hmk
  go_loopw [5] (fun i wr => ∃ t : Nat, t ≤ n ∧ i = .int .i64 t ∧ (∃ cs, Blk wr w.heap.size cs 30 ∧ cs.size = n * 2 ∧ KRow cs t h) ∧ Below w.heap.size w wr) (fun i _ => n - (intOf i).toNat)
  case atStart => exact ⟨0, Nat.zero_le _, rfl, ⟨_, hB0.out, size_madeCells _ _, fun j hj => absurd hj (Nat.not_lt_zero _)⟩, hb0⟩
  case round =>
    clear hB0 hb0
    obtain ⟨t, ht, rfl, ⟨cs, hB, hs, hk⟩, hbel⟩ := hrel
    by_cases hlt : t < n
    · have hqr := q_below HQ.out hbel
      have HQR : Hid (Q _ _ _ _) := hqr
      have hlt2 : (t : Int) < (n : Int) := by omega
      clear hqr
      have hf := hB.free
      obtain ⟨v0, hv0⟩ : ∃ v, cs[t * 2]? = some v := ⟨cs[t * 2]'(by omega), by simp⟩
      obtain ⟨v1, hv1⟩ : ∃ v, cs[t * 2 + 1]? = some v := ⟨cs[t * 2 + 1]'(by omega), by simp⟩
      have c0 := hB.cellOf hv0
      have c1 := hB.cellOf hv1
      clear hv0 hv1
      have hB2 := (hB.set (t * 2) (.int .i64 (h t).1)).set (t * 2 + 1) (.int .u64 (h t).2)
      have hk2 := krow_next hk (by omega)
      have hs2 : ((cs.setIfInBounds (t * 2) (.int .i64 (h t).1)).setIfInBounds (t * 2 + 1) (.int .u64 (h t).2)).size = n * 2 := by simpa using hs
      have hb2 : Below w.heap.size w ((wr.setCell ⟨w.heap.size, t * 2, none⟩ (.int .i64 (h t).1)).setCell ⟨w.heap.size, t * 2 + 1, none⟩ (.int .u64 (h t).2)) := (hbel.setCell (p := ⟨w.heap.size, _, none⟩) (Nat.le_refl _) _).setCell (p := ⟨w.heap.size, _, none⟩) (Nat.le_refl _) _
      have HE : Hid ((∃ cs, Blk ((wr.setCell ⟨w.heap.size, t * 2, none⟩ (.int .i64 (h t).1)).setCell ⟨w.heap.size, t * 2 + 1, none⟩ (.int .u64 (h t).2)) w.heap.size cs 30 ∧ cs.size = n * 2 ∧ KRow cs (t + 1) h) ∧ Below w.heap.size w ((wr.setCell ⟨w.heap.size, t * 2, none⟩ (.int .i64 (h t).1)).setCell ⟨w.heap.size, t * 2 + 1, none⟩ (.int .u64 (h t).2))) := ⟨⟨_, hB2, hs2, hk2⟩, hb2⟩
      clear hB hB2 hk hk2 hs hs2 hb2 hbel
      go_wp2_with fail
      refine (eventAt_any bq n t h _ HQR.out hlt).mono ?_
      rintro e w3 ⟨rfl, hw3⟩
      subst hw3
      go_wp2_with fail
      refine (eventSeq_any bq n t h _ HQR.out hlt).mono ?_
      rintro e w3 ⟨rfl, hw3⟩
      subst hw3
      go_wp2_with fail
      go_roundw
      case rel => exact ⟨t + 1, by omega, by go_num, HE.out.1, HE.out.2⟩
      case measure => simp [intOf]; omega
    · obtain rfl : t = n := by omega
      go_wp2_with fail
      go_ret
      exact ⟨rfl, ⟨cs, hB, hs, hk⟩, hbel⟩
end Go.Proofs.Qxb6612683a
