/-
  The path from a slot up to the root, and what one push does along it. Plain mathematics.
-/
import Derived.Test.Qxb6612683aKeys
namespace Go.Proofs.Qxb6612683a

def par (i : Nat) : Nat := (i - 1) / 2
/-- The k-th ancestor. -/
def anc : Nat → Nat → Nat
  | 0, i => i
  | k + 1, i => par (anc k i)

theorem anc_par (k i : Nat) : anc k (par i) = anc (k + 1) i := by
  induction k with
  | zero => rfl
  | succ k ih => show par (anc k (par i)) = par (anc (k + 1) i); rw [ih]
theorem par_le (i : Nat) : par i ≤ i := by unfold par; omega
theorem par_lt {i : Nat} (h : 0 < i) : par i < i := by unfold par; omega
theorem anc_le (k i : Nat) : anc k i ≤ i := by
  induction k with
  | zero => exact Nat.le_refl _
  | succ k ih => exact Nat.le_trans (par_le _) ih
theorem anc_zero (k : Nat) : anc k 0 = 0 := by have := anc_le k 0; omega
theorem anc_add (a b i : Nat) : anc (a + b) i = anc b (anc a i) := by
  induction b with
  | zero => rfl
  | succ b ih => show par (anc (a + b) i) = par (anc b (anc a i)); rw [ih]
theorem anc_pos_le {i : Nat} (h : 0 < i) (k : Nat) : anc (k + 1) i < i := by
  have h1 := anc_le k (par i)
  rw [anc_par] at h1
  have := par_lt h
  omega
/-- Strictly down as long as it is not at the root. -/
theorem anc_strict {i a b : Nat} (hab : a < b) (hp : 0 < anc a i) : anc b i < anc a i := by
  obtain ⟨c, rfl⟩ : ∃ c, b = a + (c + 1) := ⟨b - a - 1, by omega⟩
  rw [anc_add]
  exact anc_pos_le hp c

/-- What the sift does, in steps up the path. -/
theorem sift_path : ∀ (i : Nat) (h : Nat → Int × Int), ∃ s, (∀ k, (∀ t, t ≤ s → anc t i ≠ k) → sift i h i k = h k) ∧ (∀ t, t < s → sift i h i (anc t i) = h (anc (t + 1) i)) ∧ sift i h i (anc s i) = h i ∧
    (∀ t, t < s → 0 < anc t i ∧ kLess (h i) (h (anc (t + 1) i)) = true) ∧ (anc s i = 0 ∨ kLess (h i) (h (anc (s + 1) i)) = false) := by
  intro i
  induction i using Nat.strongRecOn with
  | ind i ih =>
    intro h
    cases hl : kLess (h i) (h ((i - 1) / 2)) with
    | false =>
      refine ⟨0, fun k _ => by rw [sift_stop hl], fun t ht => by omega, by rw [sift_stop hl]; rfl, fun t ht => by omega, .inr hl⟩
    | true =>
      have hi0 : 0 < i := by
        by_cases e : i = 0
        · subst e; rw [show (0 - 1) / 2 = 0 from rfl, kless_self] at hl; cases hl
        · omega
      have hlt : par i < i := par_lt hi0
      obtain ⟨s, r1, r2, r3, r4, r5⟩ := ih (par i) hlt (swp h i (par i))
      have hgo : sift i h i = sift (par i) (swp h i (par i)) (par i) := sift_go hi0 hl
      rw [← hgo] at r1 r2 r3
      have s2 : swp h i (par i) (par i) = h i := by unfold swp; rw [if_neg (by omega), if_pos rfl]
      have s3 : ∀ j, j < par i → swp h i (par i) j = h j := fun j a => by unfold swp; rw [if_neg (by omega), if_neg (by omega)]
      have below : ∀ t, 0 < anc t (par i) → anc (t + 1) (par i) < par i := fun t ht => by
        have h1 := anc_strict (i := par i) (Nat.lt_succ_self t) ht
        have h2 := anc_le t (par i)
        show anc (Nat.succ t) (par i) < par i
        omega
      refine ⟨s + 1, fun k hk => ?_, fun t ht => ?_, ?_, fun t ht => ?_, ?_⟩
      · rw [r1 k (fun t ht => by rw [anc_par]; exact hk (t + 1) (by omega))]
        have e1 : k ≠ i := fun e => hk 0 (by omega) (by rw [e]; rfl)
        have e2 : k ≠ par i := fun e => hk 1 (by omega) (by rw [e]; rfl)
        unfold swp; rw [if_neg e1, if_neg e2]
      · match t with
        | 0 =>
          show sift i h i i = h (par i)
          rw [r1 i (fun t _ e => by have := anc_le t (par i); omega)]
          unfold swp; rw [if_pos rfl]
        | t + 1 =>
          rw [← anc_par, r2 t (by omega), s3 _ (below t (r4 t (by omega)).1), anc_par]
      · rw [← anc_par, r3, s2]
      · match t with
        | 0 => exact ⟨hi0, hl⟩
        | t + 1 =>
          obtain ⟨q1, q2⟩ := r4 t (by omega)
          rw [s2, s3 _ (below t q1), anc_par] at q2
          rw [anc_par] at q1
          exact ⟨q1, q2⟩
      · rcases r5 with q | q
        · exact .inl (by rw [← anc_par]; exact q)
        · by_cases e : anc s (par i) = 0
          · exact .inl (by rw [← anc_par]; exact e)
          · rw [s2, s3 _ (below s (by omega)), anc_par] at q
            exact .inr q

theorem kless_of_le {e a b : Int × Int} (h1 : kLess e a = true) (h2 : kLess b a = false) : kLess e b = true := by
  rw [kless_iff] at *; rw [kless_false_iff] at h2; omega

theorem heap_path {G : Nat → Int × Int} {n : Nat} (hh : HeapTo G n) {t : Nat} (ht : anc t n < n) : ∀ u, kLess (G (anc t n)) (G (anc (t + u) n)) = false := by
  intro u
  induction u with
  | zero => exact kless_self _
  | succ u ih =>
    have hle : anc (t + u) n ≤ anc t n := by rw [anc_add]; exact anc_le _ _
    by_cases e : anc (t + u) n = 0
    · have : anc (t + (u + 1)) n = anc (t + u) n := by show par (anc (t + u) n) = _; rw [e]; rfl
      rw [this]; exact ih
    · have := hh (anc (t + u) n) (by omega) (by omega)
      exact kle_trans this ih

/-- One push along the path: d: the depth; c: the first slot of the path, root first, whose key comes behind e (d if none). -/
theorem push_path {G : Nat → Int × Int} {n d c : Nat} (e : Int × Int) (hh : HeapTo G n) (hd : ∀ t, t < d → 0 < anc t n) (hd0 : anc d n = 0) (hcd : c ≤ d)
    (hc1 : ∀ j, j < c → kLess e (G (anc (d - j) n)) = false) (hc2 : c = d ∨ kLess e (G (anc (d - c) n)) = true) :
    (∀ k, k < n → (∀ t, t ≤ d → anc t n ≠ k) → pushK G n e k = G k) ∧
    (∀ j, j < c → pushK G n e (anc (d - j) n) = G (anc (d - j) n)) ∧ pushK G n e (anc (d - c) n) = e ∧
    (∀ j, c < j → j ≤ d → pushK G n e (anc (d - j) n) = G (anc (d - (j - 1)) n)) := by
  obtain ⟨s, r1, r2, r3, r4, r5⟩ := sift_path n (upd G n e)
  change ∀ k, _ → pushK G n e k = _ at r1
  change ∀ t, t < s → pushK G n e _ = _ at r2
  change pushK G n e _ = _ at r3
  have u0 : upd G n e n = e := by simp [upd]
  have u1 : ∀ k, k < n → upd G n e k = G k := fun k hk => by unfold upd; rw [if_neg (by omega)]
  have hsd : s ≤ d := by
    by_cases hlt : d < s
    · have := (r4 d hlt).1; omega
    · omega
  have anlt : ∀ t, 0 < t → t ≤ d → anc t n < n := fun t h0 h1 => anc_strict (i := n) (a := 0) h0 (hd 0 (by omega))
  rw [u0] at r3 r4 r5
  have hcs : c = d - s := by
    by_cases h1 : d - s < c
    · exfalso
      have h2 := hc1 (d - s) h1
      rw [show d - (d - s) = s by omega] at h2
      have h3 := (r4 (s - 1) (by omega)).2
      rw [show s - 1 + 1 = s by omega, u1 _ (anlt s (by omega) hsd), h2] at h3
      cases h3
    · by_cases h2 : c < d - s
      · exfalso
        rcases hc2 with h3 | h3
        · omega
        · rcases r5 with h4 | h4
          · have := hd s (by omega); omega
          · rw [u1 _ (anlt (s + 1) (by omega) (by omega))] at h4
            have h5 := heap_path hh (anlt (s + 1) (by omega) (by omega)) (d - c - (s + 1))
            rw [show s + 1 + (d - c - (s + 1)) = d - c by omega] at h5
            have h6 := kless_of_le h3 h5
            rw [h6] at h4; cases h4
      · omega
  refine ⟨fun k hk hoff => ?_, fun j hj => ?_, ?_, fun j hj hjd => ?_⟩
  · rw [r1 k (fun t ht => hoff t (by omega)), u1 k hk]
  · rw [r1 _ (fun t ht => by have := anc_strict (i := n) (show t < d - j by omega) (hd t (by omega)); omega), u1 _ (anlt (d - j) (by omega) (by omega))]
  · rw [hcs, show d - (d - s) = s by omega]; exact r3
  · rw [r2 (d - j) (by omega), u1 _ (anlt (d - j + 1) (by omega) (by omega)), show d - (j - 1) = d - j + 1 by omega]

end Go.Proofs.Qxb6612683a
