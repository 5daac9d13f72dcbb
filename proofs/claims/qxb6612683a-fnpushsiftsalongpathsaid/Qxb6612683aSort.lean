/-
  sortedKeys: the contract: a new sorted row with just the same keys.
-/
import Derived.Test.Qxb6612683aKeys
import Derived.Test.Qxb6612683aQueueFns
namespace Go.Proofs.Qxb6612683a
open Go.RowKit

/-- A new row of keys at block g. -/
def NewRow (w : World) (g n : Nat) (A : Nat → Int × Int) : Prop := ∃ cs, Blk w g cs 30 ∧ cs.size = n * 2 ∧ KRow cs n A

theorem NewRow.c0 {w : World} {g n : Nat} {A : Nat → Int × Int} (h : NewRow w g n A) {i : Nat} (hi : i < n) : w.cell? ⟨g, i * 2, none⟩ = some (.int .i64 (A i).1) := by
  obtain ⟨cs, hb, _, hk⟩ := h
  exact hb.cellOf (hk i hi).1
theorem NewRow.c1 {w : World} {g n : Nat} {A : Nat → Int × Int} (h : NewRow w g n A) {i : Nat} (hi : i < n) : w.cell? ⟨g, i * 2 + 1, none⟩ = some (.int .u64 (A i).2) := by
  obtain ⟨cs, hb, _, hk⟩ := h
  exact hb.cellOf (hk i hi).2
theorem NewRow.free {w : World} {g n : Nat} {A : Nat → Int × Int} (h : NewRow w g n A) (i : Nat) : w.frozen? ⟨g, i, none⟩ = false := by
  obtain ⟨cs, hb, _, hk⟩ := h
  exact hb.free i
theorem NewRow.lt {w : World} {g n : Nat} {A : Nat → Int × Int} (h : NewRow w g n A) : g < w.heap.size := by
  obtain ⟨cs, hb, _, hk⟩ := h
  exact hb.lt
theorem NewRow.alloc {w : World} {g n : Nat} {A : Nat → Int × Int} (h : NewRow w g n A) (o : Obj) : NewRow (w.alloc o) g n A := by
  obtain ⟨cs, hb, hs, hk⟩ := h
  exact ⟨cs, hb.alloc o, hs, hk⟩
theorem NewRow.drew {w : World} {g n : Nat} {A : Nat → Int × Int} (h : NewRow w g n A) : NewRow w.drew g n A := h
theorem NewRow.below {w w' : World} {g n : Nat} {A : Nat → Int × Int} (h : NewRow w g n A) (hb : Below w.heap.size w w') : NewRow w' g n A := by
  obtain ⟨cs, hc, hs, hk⟩ := h
  exact ⟨cs, hc.below hb hc.lt, hs, hk⟩
theorem NewRow.put {w : World} {g n : Nat} {A : Nat → Int × Int} (h : NewRow w g n A) {i : Nat} (hi : i < n) (k : Int × Int) :
    NewRow ((w.setCell ⟨g, i * 2, none⟩ (.int .i64 k.1)).setCell ⟨g, i * 2 + 1, none⟩ (.int .u64 k.2)) g n (upd A i k) := by
  obtain ⟨cs, hb, hs, hk⟩ := h
  exact ⟨_, (hb.set _ _).set _ _, by simpa using hs, krow_set hk k (by omega)⟩

theorem blk_drew {w : World} {b : Nat} {cs : Array Value} {t : TypeId} (h : Blk w b cs t) : Blk w.drew b cs t := h

theorem evLess_below (a b : Int × Int) (w : World) :
    Calls Try.prog 13 #[.agg #[.int .i64 a.1, .int .u64 a.2], .agg #[.int .i64 b.1, .int .u64 b.2]] w fun e w' => e = .returned (.bool (kLess a b)) ∧ Below w.heap.size w w' := by
  refine (evLess_any a b w).mono ?_
  rintro e w' ⟨rfl, rfl⟩
  exact ⟨rfl, ((Below.refl _ _).alloc (Nat.le_refl _) _).alloc (by simp) _⟩

set_option maxHeartbeats 4000000 in
theorem sorted_any (a : Option Addr) (len cap : Nat) (K : Nat → Int × Int) (w : World) (hr : Row2 w a len K) (hn : len ≤ 65537) :
    Calls Try.prog 14 #[.slice a len cap] w fun e w' => e = .returned (.slice (some ⟨w.heap.size, 0, none⟩) len len) ∧ (∃ A, NewRow w' w.heap.size len A ∧ SortedTo A len ∧ ∀ k, cnt A len k = cnt K len k) ∧ Below w.heap.size w w' := by
  have hmk := make30 len hn
  go_enter Try.func14, Try.ntmps14
  go_wp2_with fail
  have hb0 : Below w.heap.size w (w.alloc (.cells (madeCells #[.int .i64 0, .int .u64 0] (len * 2)) 30)) := (Below.refl _ _).alloc (Nat.le_refl _) _
  have hB0 : Hid (Blk (w.alloc (.cells (madeCells #[.int .i64 0, .int .u64 0] (len * 2)) 30)) w.heap.size (madeCells #[.int .i64 0, .int .u64 0] (len * 2)) 30) := Blk.new _ _ _
  clear hmk
  go_loopw [4] (fun i wr => ∃ t : Nat, t ≤ len ∧ i = .int .i64 t ∧ (∃ cs, Blk wr w.heap.size cs 30 ∧ cs.size = len * 2 ∧ KRow cs t K) ∧ Below w.heap.size w wr) (fun i _ => len - (intOf i).toNat)
  case atStart => exact ⟨0, Nat.zero_le _, rfl, ⟨_, hB0.out, size_madeCells _ _, fun j hj => absurd hj (Nat.not_lt_zero _)⟩, hb0⟩
  case round =>
    clear hB0 hb0
    obtain ⟨t, ht, rfl, ⟨cs, hB, hs, hk⟩, hbel⟩ := hrel
    by_cases hlt : t < len
    · obtain ⟨b, off, rfl, hb, c0, c1⟩ := hr t hlt
      rw [← hbel.cell (p := ⟨b, off + t * 2, none⟩) hb] at c0
      rw [← hbel.cell (p := ⟨b, off + t * 2 + 1, none⟩) hb] at c1
      have hlt2 : (t : Int) < (len : Int) := by omega
      have hf := hB.free
      obtain ⟨v0, hv0⟩ : ∃ v, cs[t * 2]? = some v := ⟨cs[t * 2]'(by omega), by simp⟩
      obtain ⟨v1, hv1⟩ : ∃ v, cs[t * 2 + 1]? = some v := ⟨cs[t * 2 + 1]'(by omega), by simp⟩
      have d0 := hB.cellOf hv0
      have d1 := hB.cellOf hv1
      clear hv0 hv1
      have HE : Hid ((∃ cs, Blk ((wr.setCell ⟨w.heap.size, t * 2, none⟩ (.int .i64 (K t).1)).setCell ⟨w.heap.size, t * 2 + 1, none⟩ (.int .u64 (K t).2)) w.heap.size cs 30 ∧ cs.size = len * 2 ∧ KRow cs (t + 1) K) ∧ Below w.heap.size w ((wr.setCell ⟨w.heap.size, t * 2, none⟩ (.int .i64 (K t).1)).setCell ⟨w.heap.size, t * 2 + 1, none⟩ (.int .u64 (K t).2))) :=
        ⟨⟨_, (hB.set (t * 2) (.int .i64 (K t).1)).set (t * 2 + 1) (.int .u64 (K t).2), by simpa using hs, krow_next hk (by omega)⟩, (hbel.setCell (p := ⟨w.heap.size, _, none⟩) (Nat.le_refl _) _).setCell (p := ⟨w.heap.size, _, none⟩) (Nat.le_refl _) _⟩
      clear hB hk hs hbel
      go_wp2_with fail
      go_roundw
      case rel => exact ⟨t + 1, by omega, by go_num, HE.out.1, HE.out.2⟩
      case measure => simp [intOf]; omega
    · obtain rfl : t = len := by omega
      have HN : Hid (NewRow wr w.heap.size t K) := ⟨cs, hB, hs, hk⟩
      clear hB hs hk hr
      go_wp2_with fail
      go_loopw [5] (fun i wr => ∃ m : Nat, 1 ≤ m ∧ (m ≤ t ∨ m = 1) ∧ i = .int .i64 m ∧ (∃ A, NewRow wr w.heap.size t A ∧ SortedTo A m ∧ ∀ k, cnt A t k = cnt K t k) ∧ Below w.heap.size w wr) (fun i _ => t - (intOf i).toNat)
      case atStart => exact ⟨1, by omega, .inr rfl, rfl, ⟨K, HN.out, fun _ _ => by omega, fun _ => rfl⟩, hbel⟩
      case round =>
        clear HN hbel
        obtain ⟨m, hm1, hm2, rfl, ⟨A, hN, hS, hC⟩, hbel⟩ := hrel
        by_cases hlt : m < t
        · have c0 := hN.c0 hlt
          have c1 := hN.c1 hlt
          have hlt2 : (m : Int) < (t : Int) := by omega
          have HN : Hid (NewRow _ _ _ _) := hN
          clear hN
          go_wp2_with fail
          have hole := hole_start hS hC
          have hN1 := HN.out.alloc (.cells #[.int .i64 (A m).1, .int .u64 (A m).2] 30)
          have hX1 := Blk.new wr #[.int .i64 (A m).1, .int .u64 (A m).2] 30
          have hb1 := hbel.alloc hbel.size (.cells #[.int .i64 (A m).1, .int .u64 (A m).2] 30)
          have hgx : w.heap.size < wr.heap.size := HN.out.lt
          have HI : Hid (NewRow (wr.alloc (.cells #[.int .i64 (A m).1, .int .u64 (A m).2] 30)) w.heap.size t A ∧ Blk (wr.alloc (.cells #[.int .i64 (A m).1, .int .u64 (A m).2] 30)) wr.heap.size #[.int .i64 (A m).1, .int .u64 (A m).2] 30 ∧ Hole A K (A m) t m m) := ⟨hN1, hX1, hole⟩
          clear hN1 hX1 hole HN hS hC hbel c0 c1
          generalize wr.alloc (.cells #[.int .i64 (A m).1, .int .u64 (A m).2] 30) = W1 at *
          generalize A m = x at *
          generalize wr.heap.size = bx at *
          go_loopw [7] (fun i wq => ∃ j : Nat, j ≤ m ∧ i = .int .i64 j ∧ (∃ A', NewRow wq w.heap.size t A' ∧ Blk wq bx #[.int .i64 x.1, .int .u64 x.2] 30 ∧ Hole A' K x t m j) ∧ Below w.heap.size w wq) (fun i _ => (intOf i).toNat)
          case atStart => exact ⟨m, Nat.le_refl _, rfl, ⟨A, HI.out⟩, hb1⟩
          case round =>
            clear HI hb1
            obtain ⟨j, hj, rfl, ⟨A', hN, hX, hole⟩, hbel⟩ := hrel
            have x0 := hX.cellOf (i := 0) (v := .int .i64 x.1) rfl
            have x1 := hX.cellOf (i := 1) (v := .int .u64 x.2) rfl
            by_cases hj0 : j = 0
            · subst hj0
              have HE := hole_end (Nat.zero_le _) (.inl rfl) hole
              have d0 := hN.c0 (show 0 < t by omega)
              have d1 := hN.c1 (show 0 < t by omega)
              have hf := hN.free
              have ht0 : (0 : Int) < (t : Int) := by omega
              have HI : Hid (NewRow _ _ _ _ ∧ (_ ∧ _)) := ⟨hN, HE⟩
              clear hN hX hole HE
              go_wp2_with fail
              go_quiet (fail)
              go_wp2_with fail
              go_roundw
              case rel => exact ⟨m + 1, by omega, .inl (by omega), by go_num, ⟨upd A' 0 x, HI.out.1.put (i := 0) (by omega) x, HI.out.2⟩, ((below_drewN hbel nq).setCell (p := ⟨w.heap.size, _, none⟩) (Nat.le_refl _) _).setCell (p := ⟨w.heap.size, _, none⟩) (Nat.le_refl _) _⟩
              case measure => simp [intOf]; omega
            · obtain ⟨j', rfl⟩ : ∃ j', j = j' + 1 := ⟨j - 1, by omega⟩
              have d0 := hN.c0 (show j' < t by omega)
              have d1 := hN.c1 (show j' < t by omega)
              have e0 := hN.c0 (show j' + 1 < t by omega)
              have e1 := hN.c1 (show j' + 1 < t by omega)
              have hf := hN.free
              have ht0 : (j' : Int) < (t : Int) := by omega
              have ht1 : (j' : Int) + 1 < (t : Int) := by omega
              have hwr : IntKind.i64.wrap (j' : Int) = (j' : Int) := by rw [IntKind.wrap_i64]; omega
              have hpos : (0 : Int) < (j' : Int) + 1 := by omega
              have HI : Hid (NewRow _ _ _ _ ∧ Blk _ _ _ _ ∧ Hole _ _ _ _ _ _) := ⟨hN, hX, hole⟩
              clear hN hX hole
              cases hl : kLess x (A' j')
              · go_wp2_with fail
                go_region_with (go_at_call 13; refine (evLess_below x (A' j') _).mono ?_; rintro e w2 ⟨rfl, hb2⟩)
                all_goals
                  have hN2 := HI.out.1.drew.below hb2
                  have hX2 := (blk_drew HI.out.2.1).below hb2 HI.out.2.1.lt
                  have hbel2 : Below w.heap.size w w2 := hbel.drew.trans (hb2.mono hbel.size)
                  have HE := hole_end hj (.inr hl) HI.out.2.2
                  clear x0 x1 d0 d1 e0 e1 hf hb2 hbel hl
                  have x0 := hX2.cellOf (i := 0) (v := .int .i64 x.1) rfl
                  have x1 := hX2.cellOf (i := 1) (v := .int .u64 x.2) rfl
                  have e0 := hN2.c0 (show j' + 1 < t by omega)
                  have e1 := hN2.c1 (show j' + 1 < t by omega)
                  have hf := hN2.free
                  have HI2 : Hid (NewRow _ _ _ _ ∧ (_ ∧ _) ∧ Below _ _ _) := ⟨hN2, HE, hbel2⟩
                  clear hN2 hX2 hbel2 HE HI
                  go_wp2_with fail
                  go_roundw
                  case rel => exact ⟨m + 1, by omega, .inl (by omega), by go_num, ⟨upd A' (j' + 1) x, HI2.out.1.put (by omega) x, HI2.out.2.1⟩, (HI2.out.2.2.setCell (p := ⟨w.heap.size, _, none⟩) (Nat.le_refl _) _).setCell (p := ⟨w.heap.size, _, none⟩) (Nat.le_refl _) _⟩
                  case measure => simp [intOf]; omega
              · go_wp2_with fail
                go_region_with (go_at_call 13; refine (evLess_below x (A' j') _).mono ?_; rintro e w2 ⟨rfl, hb2⟩)
                all_goals
                  have hN2 := HI.out.1.drew.below hb2
                  have hX2 := (blk_drew HI.out.2.1).below hb2 HI.out.2.1.lt
                  have hbel2 : Below w.heap.size w w2 := hbel.drew.trans (hb2.mono hbel.size)
                  have HE := hole_step (by omega) hj (by omega) hl HI.out.2.2
                  clear x0 x1 d0 d1 e0 e1 hf hb2 hbel hl
                  have d0 := hN2.c0 (show j' < t by omega)
                  have d1 := hN2.c1 (show j' < t by omega)
                  have e0 := hN2.c0 (show j' + 1 < t by omega)
                  have e1 := hN2.c1 (show j' + 1 < t by omega)
                  have hf := hN2.free
                  have HI2 : Hid (NewRow _ _ _ _ ∧ Hole _ _ _ _ _ _ ∧ Below _ _ _ ∧ Blk _ _ _ _) := ⟨hN2, HE, hbel2, hX2⟩
                  clear hN2 hX2 hbel2 HE HI
                  go_wp2_with fail
                  go_roundw
                  case rel => exact ⟨j', by omega, by go_num, ⟨upd A' (j' + 1) (A' j'), HI2.out.1.put (by omega) (A' j'), (HI2.out.2.2.2.setOther _ _ _ (by omega)).setOther _ _ _ (by omega), HI2.out.2.1⟩, (HI2.out.2.2.1.setCell (p := ⟨w.heap.size, _, none⟩) (Nat.le_refl _) _).setCell (p := ⟨w.heap.size, _, none⟩) (Nat.le_refl _) _⟩
                  case measure => simp [intOf]
        · go_wp2_with fail
          go_ret
          exact ⟨rfl, ⟨A, hN, fun q hq => hS q (by omega), hC⟩, hbel⟩
end Go.Proofs.Qxb6612683a
