/-
  Rows of keys: a slice of keys that came in, read as data; rows later on; what building a queue by pushes gives.
-/
import Derived.Test.Qxb6612683aSort
import Derived.ProofKit
import Derived.OpenShut
import Derived.ShutString
import Derived.ChangeOld
import Derived.Below
import Derived.Deep.SlicePairs
namespace Go.Proofs.Qxb6612683a
open Go.ChangeShapes Go.WideShapes Go.ChangeAt Go.RowKit Go.Deep

theorem Row2.later {w w' : World} {a : Option Addr} {len : Nat} {K : Nat → Int × Int} (h : Row2 w a len K) (hb : Below w.heap.size w w') : Row2 w' a len K := by
  intro i hi
  obtain ⟨b, off, e, hlt, c0, c1⟩ := h i hi
  refine ⟨b, off, e, by have := hb.size; omega, ?_, ?_⟩
  · rw [hb.cell (p := ⟨b, off + i * 2, none⟩) hlt]; exact c0
  · rw [hb.cell (p := ⟨b, off + i * 2 + 1, none⟩) hlt]; exact c1

theorem row2_new {w : World} {g n : Nat} {A : Nat → Int × Int} (h : NewRow w g n A) : Row2 w (some ⟨g, 0, none⟩) n A := by
  intro i hi
  exact ⟨g, 0, rfl, h.lt, by rw [Nat.zero_add]; exact h.c0 hi, by rw [Nat.zero_add]; exact h.c1 hi⟩

theorem NewRow.drewN {w : World} {g n : Nat} {A : Nat → Int × Int} (h : NewRow w g n A) (m : Nat) : NewRow (w.drewN m) g n A := h
theorem NewRow.keeps {w w' : World} {g n : Nat} {A : Nat → Int × Int} (h : NewRow w g n A) (hk : Keeps w w') : NewRow w' g n A := by
  obtain ⟨cs, hc, hs, hr⟩ := h
  exact ⟨cs, hk g cs 30 hc (by decide) (by decide), hs, hr⟩

theorem built_heap (K : Nat → Int × Int) : ∀ n, HeapTo (builtK K n) n := by
  intro n
  induction n with
  | zero => intro i _ hi; omega
  | succ n ih => exact push_heap (K n) ih
theorem built_cnt (K : Nat → Int × Int) (x : Int × Int) : ∀ n, cnt (builtK K n) n x = cnt K n x := by
  intro n
  induction n with
  | zero => rfl
  | succ n ih => rw [builtK, push_cnt, ih, cnt]
theorem built_least (K : Nat → Int × Int) {n i : Nat} (hi : i < n) : kLess (K i) (builtK K n 0) = false := by
  have h := cnt_of_mem (h := K) hi
  rw [← built_cnt K (K i) n] at h
  obtain ⟨j, hj, e⟩ := cnt_pos h
  rw [← e]
  exact heap_least (built_heap K n) j hj

theorem cell_lt {w : World} {a : Addr} {v : Value} (h : w.cell? a = some v) : a.block < w.heap.size := by
  by_cases hb : a.block < w.heap.size
  · exact hb
  · simp [World.cell?, Array.getElem?_eq_none (show w.heap.size ≤ a.block by omega)] at h

/-- A slice of keys, read as data, as the walk wants it. -/
theorem row_keys {H : Type} {enc : TypeId × Value → H} {w : World} {fuel : Nat} {a : Option Addr} {len cap : Nat} {x : DataW H × List MemPlace}
    (h : DataW.trod enc Try.prog w 0 (fun _ => true) true fuel 22 [.slice a len cap] = some x) : ∃ K : Nat → Int × Int, len ≤ maxLen ∧ Row2 w a len K := by
  rcases open_slice_pairs Try.underlying22 Try.underlying30 (by kernel_rfl) rfl rfl (by kernel_rfl) (by kernel_rfl) h with ⟨hcs, _⟩ | ⟨a', len', cap', m, n, V0, V1, D0, D1, P0, P1, hcs, _, hl, hm, hmm, _, hx⟩
  · simp at hcs
    obtain ⟨rfl, rfl, rfl⟩ := hcs
    exact ⟨fun _ => (0, 0), Nat.zero_le _, fun i hi => absurd hi (Nat.not_lt_zero _)⟩
  · simp at hcs
    obtain ⟨rfl, rfl, rfl⟩ := hcs
    simp only [if_true] at hmm
    subst hmm
    obtain ⟨K, hK⟩ := choose_lt (α := Int × Int) (p := fun i k => V0 i = .int .i64 k.1 ∧ V1 i = .int .u64 k.2) (fun i hi => by
      obtain ⟨_, _, t0, t1⟩ := hx i hi
      obtain ⟨n0, e0, _, _⟩ := DataW.trod_int Try.underlying2 t0
      obtain ⟨n1, e1, _, _⟩ := DataW.trod_int Try.underlying28 t1
      exact ⟨(n0, n1), by simpa using e0, by simpa using e1⟩)
    refine ⟨K, by omega, fun i hi => ?_⟩
    obtain ⟨b, off, spot⟩ := a'
    obtain ⟨h0, h1, _, _⟩ := hx i (by omega)
    have hs : spot = none := by simpa [Addr.add] using World.cell?_spot (hx 0 (by omega)).1
    subst hs
    rw [add_plain, (hK i (by omega)).1] at h0
    rw [add_plain, (hK i (by omega)).2] at h1
    exact ⟨b, off, rfl, cell_lt h0, h0, by rw [Nat.add_assoc]; exact h1⟩
end Go.Proofs.Qxb6612683a
