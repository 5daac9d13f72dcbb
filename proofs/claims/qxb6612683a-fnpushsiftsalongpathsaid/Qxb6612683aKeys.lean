/-
  Plain mathematics of keys: the order, counting, sortedness, heap order, the sift. No walk here.
-/
import Derived.Test.Qxb6612683aPush
namespace Go.Proofs.Qxb6612683a

/-! ### the order -/
theorem kless_iff (a b : Int × Int) : kLess a b = true ↔ a.1 < b.1 ∨ (a.1 = b.1 ∧ a.2 < b.2) := by
  unfold kLess; simp
theorem kless_false_iff (a b : Int × Int) : kLess a b = false ↔ ¬ (a.1 < b.1 ∨ (a.1 = b.1 ∧ a.2 < b.2)) := by
  rw [← kless_iff, Bool.not_eq_true]
theorem kless_self (a : Int × Int) : kLess a a = false := by rw [kless_false_iff]; omega
theorem kless_asymm {a b : Int × Int} (h : kLess a b = true) : kLess b a = false := by rw [kless_iff] at h; rw [kless_false_iff]; omega
theorem kle_trans {a b c : Int × Int} (h1 : kLess b a = false) (h2 : kLess c b = false) : kLess c a = false := by
  rw [kless_false_iff] at *; omega
theorem kle_antisymm {a b : Int × Int} (h1 : kLess b a = false) (h2 : kLess a b = false) : a = b := by
  rw [kless_false_iff] at *
  exact Prod.ext (by omega) (by omega)

/-! ### how often a key stands among the first n -/
def cnt (h : Nat → Int × Int) : Nat → (Int × Int) → Nat
  | 0, _ => 0
  | n + 1, k => cnt h n k + (if h n = k then 1 else 0)

theorem cnt_congr {h g : Nat → Int × Int} {n : Nat} (e : ∀ j, j < n → h j = g j) (k : Int × Int) : cnt h n k = cnt g n k := by
  induction n with
  | zero => rfl
  | succ n ih => rw [cnt, cnt, ih (fun j hj => e j (by omega)), e n (by omega)]

theorem cnt_upd (h : Nat → Int × Int) (x k : Int × Int) (j n : Nat) (hj : j < n) : cnt (upd h j x) n k + (if h j = k then 1 else 0) = cnt h n k + (if x = k then 1 else 0) := by
  induction n with
  | zero => omega
  | succ n ih =>
    rw [cnt, cnt]
    by_cases e : j = n
    · subst e
      have : cnt (upd h j x) j k = cnt h j k := cnt_congr (fun i hi => by simp [upd]; omega) k
      rw [this]
      have hu : upd h j x j = x := by simp [upd]
      rw [hu]; omega
    · have := ih (by omega)
      have hu : upd h j x n = h n := by simp [upd]; omega
      rw [hu]; omega

theorem cnt_swp (h : Nat → Int × Int) (k : Int × Int) (i p n : Nat) (hi : i < n) (hp : p < n) (hne : p ≠ i) : cnt (swp h i p) n k = cnt h n k := by
  rw [← upd_upd h i p hne]
  have h1 := cnt_upd (upd h i (h p)) (h i) k p n hp
  have h2 := cnt_upd h (h p) k i n hi
  have hu : upd h i (h p) p = h p := by simp [upd]
  rw [hu] at h1
  omega

theorem cnt_pos {h : Nat → Int × Int} {n : Nat} {k : Int × Int} (hc : 0 < cnt h n k) : ∃ j, j < n ∧ h j = k := by
  induction n with
  | zero => simp [cnt] at hc
  | succ n ih =>
    by_cases e : h n = k
    · exact ⟨n, by omega, e⟩
    · rw [cnt, if_neg e] at hc
      obtain ⟨j, hj, ej⟩ := ih (by omega)
      exact ⟨j, by omega, ej⟩

theorem cnt_of_mem {h : Nat → Int × Int} {n j : Nat} (hj : j < n) : 0 < cnt h n (h j) := by
  induction n with
  | zero => omega
  | succ n ih =>
    rw [cnt]
    by_cases e : j = n
    · subst e; simp
    · have := ih (by omega); omega

/-! ### sorted rows -/
def SortedTo (A : Nat → Int × Int) (n : Nat) : Prop := ∀ t, t + 1 < n → kLess (A (t + 1)) (A t) = false

theorem sorted_le {A : Nat → Int × Int} {n : Nat} (hs : SortedTo A n) : ∀ (d i : Nat), i + d < n → kLess (A (i + d)) (A i) = false := by
  intro d
  induction d with
  | zero => intro i _; exact kless_self _
  | succ d ih => intro i hi; exact kle_trans (ih i (by omega)) (hs (i + d) (by omega))

theorem sorted_unique : ∀ (n : Nat) (A B : Nat → Int × Int), SortedTo A n → SortedTo B n → (∀ k, cnt A n k = cnt B n k) → ∀ i, i < n → A i = B i := by
  intro n
  induction n with
  | zero => intro A B _ _ _ i hi; omega
  | succ n ih =>
    intro A B hA hB hc
    have last : A n = B n := by
      have h1 : 0 < cnt B (n + 1) (A n) := by rw [← hc]; exact cnt_of_mem (by omega)
      have h2 : 0 < cnt A (n + 1) (B n) := by rw [hc]; exact cnt_of_mem (by omega)
      obtain ⟨j, hj, ej⟩ := cnt_pos h1
      obtain ⟨j', hj', ej'⟩ := cnt_pos h2
      have e1 := sorted_le hB (n - j) j (by omega)
      have e2 := sorted_le hA (n - j') j' (by omega)
      rw [show j + (n - j) = n by omega, ej] at e1
      rw [show j' + (n - j') = n by omega, ej'] at e2
      exact kle_antisymm e1 e2
    intro i hi
    by_cases e : i = n
    · rw [e]; exact last
    · refine ih A B (fun t ht => hA t (by omega)) (fun t ht => hB t (by omega)) (fun k => ?_) i (by omega)
      have := hc k
      rw [cnt, cnt, last] at this
      omega

/-! ### insertion: the inner loop's invariant -/
/-- Slot j is free for x: the row with x there holds the keys K; before j sorted, behind j (up to i) sorted and after x, and what stands round j is in order. -/
def Hole (A K : Nat → Int × Int) (x : Int × Int) (n i j : Nat) : Prop :=
  (∀ k, cnt (upd A j x) n k = cnt K n k) ∧ (∀ t, t + 1 < j → kLess (A (t + 1)) (A t) = false) ∧ (∀ t, j < t → t < i → kLess (A (t + 1)) (A t) = false) ∧
  (∀ t, j < t → t ≤ i → kLess x (A t) = true) ∧ (0 < j → j < i → kLess (A (j + 1)) (A (j - 1)) = false)

theorem hole_start {A K : Nat → Int × Int} {n i : Nat} (hs : SortedTo A i) (hc : ∀ k, cnt A n k = cnt K n k) : Hole A K (A i) n i i := by
  refine ⟨fun k => ?_, hs, fun t h1 h2 => by omega, fun t h1 h2 => by omega, fun _ h => by omega⟩
  rw [← hc k]
  exact cnt_congr (fun j _ => by unfold upd; split <;> simp_all) k

theorem hole_step {A K : Nat → Int × Int} {x : Int × Int} {n i j : Nat} (hi : i < n) (hj : j ≤ i) (h0 : 0 < j) (hl : kLess x (A (j - 1)) = true) (h : Hole A K x n i j) : Hole (upd A j (A (j - 1))) K x n i (j - 1) := by
  obtain ⟨hc, hp, hs, hx, hb⟩ := h
  have u1 : ∀ t, t ≠ j → upd A j (A (j - 1)) t = A t := fun t e => by simp [upd, e]
  have u2 : upd A j (A (j - 1)) j = A (j - 1) := by simp [upd]
  refine ⟨fun k => ?_, fun t ht => ?_, fun t h1 h2 => ?_, fun t h1 h2 => ?_, fun h1 h2 => ?_⟩
  · rw [← hc k]
    have e1 := cnt_upd (upd A j (A (j - 1))) x k (j - 1) n (by omega)
    have e2 := cnt_upd A (A (j - 1)) k j n (by omega)
    have e3 := cnt_upd A x k j n (by omega)
    rw [u1 (j - 1) (by omega)] at e1
    omega
  · rw [u1 _ (by omega), u1 _ (by omega)]; exact hp t (by omega)
  · by_cases e : t = j
    · subst e; rw [u1 _ (by omega), u2]; exact hb h0 (by omega)
    · rw [u1 _ (by omega), u1 _ (by omega)]; exact hs t (by omega) h2
  · by_cases e : t = j
    · subst e; rw [u2]; exact hl
    · rw [u1 _ (by omega)]; exact hx t (by omega) h2
  · rw [show j - 1 + 1 = j by omega, u2, u1 _ (by omega)]
    have := hp (j - 1 - 1) (by omega)
    rwa [show j - 1 - 1 + 1 = j - 1 by omega] at this

theorem hole_end {A K : Nat → Int × Int} {x : Int × Int} {n i j : Nat} (hj : j ≤ i) (hl : j = 0 ∨ kLess x (A (j - 1)) = false) (h : Hole A K x n i j) : SortedTo (upd A j x) (i + 1) ∧ ∀ k, cnt (upd A j x) n k = cnt K n k := by
  obtain ⟨hc, hp, hs, hx, hb⟩ := h
  refine ⟨fun t ht => ?_, hc⟩
  have u1 : ∀ t, t ≠ j → upd A j x t = A t := fun t e => by simp [upd, e]
  have u2 : upd A j x j = x := by simp [upd]
  by_cases e1 : t + 1 = j
  · rw [e1, u2, u1 _ (by omega)]
    rcases hl with h0 | hl
    · omega
    · rwa [show j - 1 = t by omega] at hl
  · by_cases e2 : t = j
    · subst e2; rw [u2, u1 _ (by omega)]; exact kless_asymm (hx (t + 1) (by omega) (by omega))
    · rw [u1 _ e1, u1 _ e2]
      by_cases e3 : t + 1 < j
      · exact hp t e3
      · exact hs t (by omega) (by omega)

/-! ### the heap -/
def HeapTo (h : Nat → Int × Int) (n : Nat) : Prop := ∀ i, 0 < i → i < n → kLess (h i) (h ((i - 1) / 2)) = false

/-- Heap order but for slot i against its parent; its children are in order against that parent. -/
def HeapBut (h : Nat → Int × Int) (n i : Nat) : Prop :=
  (∀ j, 0 < j → j < n → j ≠ i → kLess (h j) (h ((j - 1) / 2)) = false) ∧ (∀ j, 0 < j → j < n → (j - 1) / 2 = i → 0 < i → kLess (h j) (h ((i - 1) / 2)) = false)

theorem sift_heap : ∀ (i : Nat) (h : Nat → Int × Int) (n : Nat), i < n → HeapBut h n i → HeapTo (sift i h i) n := by
  intro i
  induction i using Nat.strongRecOn with
  | ind i ih =>
    intro h n hi ⟨h1, h2⟩
    cases hl : kLess (h i) (h ((i - 1) / 2)) with
    | false =>
      rw [sift_stop hl]
      intro j hj0 hjn
      by_cases e : j = i
      · rw [e]; exact hl
      · exact h1 j hj0 hjn e
    | true =>
      have hi0 : 0 < i := by
        by_cases e : i = 0
        · subst e; rw [show (0 - 1) / 2 = 0 from rfl, kless_self] at hl; cases hl
        · omega
      obtain ⟨p, hp⟩ : ∃ p, p = (i - 1) / 2 := ⟨_, rfl⟩
      rw [sift_go hi0 hl, ← hp]
      rw [← hp] at hl h2
      have s1 : swp h i p i = h p := by simp [swp]
      have s2 : swp h i p p = h i := by unfold swp; rw [if_neg (by omega), if_pos rfl]
      have s3 : ∀ j, j ≠ i → j ≠ p → swp h i p j = h j := fun j a b => by unfold swp; rw [if_neg a, if_neg b]
      refine ih p (by omega) _ n (by omega) ⟨fun j hj0 hjn hjp => ?_, fun j hj0 hjn hpar hp0 => ?_⟩
      · by_cases e1 : j = i
        · subst e1; rw [s1, ← hp, s2]; exact kless_asymm hl
        · rw [s3 j e1 hjp]
          by_cases e2 : (j - 1) / 2 = i
          · rw [e2, s1]; exact h2 j hj0 hjn e2 hi0
          · by_cases e3 : (j - 1) / 2 = p
            · rw [e3, s2]
              have := h1 j hj0 hjn e1
              rw [e3] at this
              exact kle_trans (kless_asymm hl) this
            · rw [s3 _ e2 e3]; exact h1 j hj0 hjn e1
      · have e0 : (p - 1) / 2 ≠ i := by omega
        have e0' : (p - 1) / 2 ≠ p := by omega
        rw [s3 _ e0 e0']
        have hpp := h1 p hp0 (by omega) (by omega)
        by_cases e1 : j = i
        · subst e1; rw [s1]; exact hpp
        · rw [s3 j e1 (by omega)]
          have := h1 j hj0 hjn e1
          rw [hpar] at this
          exact kle_trans hpp this

theorem sift_cnt : ∀ (i : Nat) (h : Nat → Int × Int) (n : Nat) (k : Int × Int), i < n → cnt (sift i h i) n k = cnt h n k := by
  intro i
  induction i using Nat.strongRecOn with
  | ind i ih =>
    intro h n k hi
    cases hl : kLess (h i) (h ((i - 1) / 2)) with
    | false => rw [sift_stop hl]
    | true =>
      have hi0 : 0 < i := by
        by_cases e : i = 0
        · subst e; rw [show (0 - 1) / 2 = 0 from rfl, kless_self] at hl; cases hl
        · omega
      rw [sift_go hi0 hl, ih _ (by omega) _ n k (by omega), cnt_swp h k i _ n hi (by omega) (by omega)]

theorem push_heap {h : Nat → Int × Int} {n : Nat} (k : Int × Int) (hh : HeapTo h n) : HeapTo (pushK h n k) (n + 1) := by
  unfold pushK
  refine sift_heap n _ (n + 1) (by omega) ⟨fun j hj0 hjn hjne => ?_, fun j hj0 hjn hpar h0 => by omega⟩
  have u : ∀ t, t ≠ n → upd h n k t = h t := fun t e => by simp [upd, e]
  rw [u j hjne, u _ (by omega)]
  exact hh j hj0 (by omega)

theorem push_cnt {h : Nat → Int × Int} {n : Nat} (k x : Int × Int) : cnt (pushK h n k) (n + 1) x = cnt h n x + (if k = x then 1 else 0) := by
  unfold pushK
  rw [sift_cnt n _ (n + 1) x (by omega), cnt]
  have u : upd h n k n = k := by simp [upd]
  rw [u, cnt_congr (h := upd h n k) (g := h) (fun j hj => by simp [upd]; omega)]

theorem heap_least {h : Nat → Int × Int} {n : Nat} (hh : HeapTo h n) : ∀ i, i < n → kLess (h i) (h 0) = false := by
  intro i
  induction i using Nat.strongRecOn with
  | ind i ih =>
    intro hi
    by_cases e : i = 0
    · subst e; exact kless_self _
    · exact kle_trans (ih ((i - 1) / 2) (by omega) (by omega)) (hh i (by omega) hi)

end Go.Proofs.Qxb6612683a
