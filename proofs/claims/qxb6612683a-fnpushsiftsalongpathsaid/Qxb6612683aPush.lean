/-
  eventQueue.push: it appends and sifts up: the contract push_any over the plain function pushK.
-/
import Derived.Test.Qxb6612683aQueue
namespace Go.Proofs.Qxb6612683a
open Go.RowKit

def swp (h : Nat → Int × Int) (i p : Nat) : Nat → Int × Int := fun j => if j = i then h p else if j = p then h i else h j

/-- Sifting up from slot i. -/
def sift : Nat → (Nat → Int × Int) → Nat → Nat → Int × Int
  | 0, h, _ => h
  | f + 1, h, i => if i = 0 then h else if kLess (h i) (h ((i - 1) / 2)) = true then sift f (swp h i ((i - 1) / 2)) ((i - 1) / 2) else h

def pushK (h : Nat → Int × Int) (n : Nat) (k : Int × Int) : Nat → Int × Int := sift n (upd h n k) n

theorem sift_fuel : ∀ (f : Nat) (h : Nat → Int × Int) (i : Nat), i ≤ f → sift f h i = sift i h i := by
  intro f
  induction f using Nat.strongRecOn with
  | ind f ih =>
    intro h i hi
    match f, i with
    | 0, 0 => rfl
    | f + 1, 0 => simp [sift]
    | f + 1, i + 1 =>
      simp only [sift, Nat.add_eq_zero_iff, Nat.one_ne_zero, and_false, if_false, Nat.add_sub_cancel]
      split
      · rw [ih f (by omega) _ _ (by omega), ih i (by omega) _ _ (by omega)]
      · rfl

theorem sift_zero (h : Nat → Int × Int) : sift 0 h 0 = h := rfl
theorem sift_stop {h : Nat → Int × Int} {i : Nat} (hl : kLess (h i) (h ((i - 1) / 2)) = false) : sift i h i = h := by
  match i with
  | 0 => rfl
  | i + 1 => simp [sift]; intro hh; simp at hl; rw [hl] at hh; cases hh
theorem sift_go {h : Nat → Int × Int} {i : Nat} (hi : 0 < i) (hl : kLess (h i) (h ((i - 1) / 2)) = true) : sift i h i = sift ((i - 1) / 2) (swp h i ((i - 1) / 2)) ((i - 1) / 2) := by
  match i with
  | i + 1 =>
    rw [sift, if_neg (by omega), if_pos hl, sift_fuel i _ _ (by omega)]

theorem qv_cells {w : World} {bq n : Nat} {h : Nat → Int × Int} {g cap : Nat} (hQ : QV w bq n h g cap) {j : Nat} (hj : j < n) :
    w.cell? ⟨g, j * 5, none⟩ = some (.int .i64 (h j).1) ∧ w.cell? ⟨g, j * 5 + 1, none⟩ = some (.int .u64 (h j).2) ∧ w.cell? ⟨g, j * 5 + 2, none⟩ = some (.string ⟨#[]⟩) ∧
    w.cell? ⟨g, j * 5 + 3, none⟩ = some (.pointer none) ∧ w.cell? ⟨g, j * 5 + 4, none⟩ = some (.pointer none) := by
  obtain ⟨_, _, cur, hc, _, _, _, hr⟩ := hQ
  exact ⟨hc.cellOf (hr j hj 0 (by omega)), hc.cellOf (hr j hj 1 (by omega)), hc.cellOf (hr j hj 2 (by omega)), hc.cellOf (hr j hj 3 (by omega)), hc.cellOf (hr j hj 4 (by omega))⟩
theorem qv_free {w : World} {bq n : Nat} {h : Nat → Int × Int} {g cap : Nat} (hQ : QV w bq n h g cap) (i : Nat) : w.frozen? ⟨g, i, none⟩ = false := by
  obtain ⟨_, _, cur, hc, _⟩ := hQ
  exact hc.free i

theorem qv_drewN {w : World} {bq n : Nat} {h : Nat → Int × Int} {g cap : Nat} (hQ : QV w bq n h g cap) (m : Nat) : QV (w.drewN m) bq n h g cap := hQ
theorem keeps_drewN {w w' : World} (hk : Keeps w w') (m : Nat) : Keeps w (w'.drewN m) := hk

/-- A whole event stored. -/
def put5 (w : World) (g o : Nat) (k : Int × Int) : World :=
  ((((w.setCell ⟨g, o, none⟩ (.int .i64 k.1)).setCell ⟨g, o + 1, none⟩ (.int .u64 k.2)).setCell ⟨g, o + 2, none⟩ (.string ⟨#[]⟩)).setCell ⟨g, o + 3, none⟩ (.pointer none)).setCell ⟨g, o + 4, none⟩ (.pointer none)

theorem evrow_set {cur : Array Value} {n : Nat} {h : Nat → Int × Int} (hr : EvRow cur n h) {j : Nat} (k : Int × Int) (hs : j * 5 + 4 < cur.size) :
    EvRow (((((cur.setIfInBounds (j * 5) (.int .i64 k.1)).setIfInBounds (j * 5 + 1) (.int .u64 k.2)).setIfInBounds (j * 5 + 2) (.string ⟨#[]⟩)).setIfInBounds (j * 5 + 3) (.pointer none)).setIfInBounds (j * 5 + 4) (.pointer none)) n (upd h j k) := by
  intro i hi c hc
  by_cases e : i = j
  · subst e
    have hu : upd h i k i = k := by simp [upd]
    rw [hu]
    rcases (show c = 0 ∨ c = 1 ∨ c = 2 ∨ c = 3 ∨ c = 4 by omega) with rfl | rfl | rfl | rfl | rfl <;>
      (simp [Array.getElem?_setIfInBounds, evc]; try omega)
  · have hu : upd h j k i = h i := by simp [upd, e]
    rw [hu, Array.getElem?_setIfInBounds_ne (by omega), Array.getElem?_setIfInBounds_ne (by omega), Array.getElem?_setIfInBounds_ne (by omega), Array.getElem?_setIfInBounds_ne (by omega), Array.getElem?_setIfInBounds_ne (by omega)]
    exact hr i hi c hc

theorem qv_put5 {w : World} {bq n : Nat} {h : Nat → Int × Int} {g cap : Nat} (hQ : QV w bq n h g cap) {j : Nat} (hj : j < n) (k : Int × Int) : QV (put5 w g (j * 5) k) bq n (upd h j k) g cap := by
  obtain ⟨hb, hg, cur, hc, hs, hn, hm, hr⟩ := hQ
  refine ⟨?_, hg, _, ((((hc.set _ _).set _ _).set _ _).set _ _).set _ _, by simpa using hs, hn, hm, evrow_set hr k (by omega)⟩
  exact ((((hb.setOther _ _ _ (by omega)).setOther _ _ _ (by omega)).setOther _ _ _ (by omega)).setOther _ _ _ (by omega)).setOther _ _ _ (by omega)

theorem keeps_set {w w' : World} {g : Nat} {cur : Array Value} (hc : Blk w' g cur 66) (hk : Keeps w w') (i : Nat) (v : Value) : Keeps w (w'.setCell ⟨g, i, none⟩ v) := by
  intro b cs t hb h66 h74
  have h1 := hk b cs t hb h66 h74
  refine h1.setOther g i v ?_
  intro e
  subst e
  unfold Blk at h1 hc
  rw [h1] at hc
  simp at hc
  exact h66 hc.2

theorem keeps_put5 {w w' : World} {g : Nat} {cur : Array Value} (hc : Blk w' g cur 66) (hk : Keeps w w') (o : Nat) (k : Int × Int) : Keeps w (put5 w' g o k) :=
  keeps_set ((((hc.set _ _).set _ _).set _ _).set _ _) (keeps_set (((hc.set _ _).set _ _).set _ _) (keeps_set ((hc.set _ _).set _ _) (keeps_set (hc.set _ _) (keeps_set hc hk _ _) _ _) _ _) _ _) _ _

theorem below_put5 {w w' : World} {B g : Nat} (hb : Below B w w') (hg : B ≤ g) (o : Nat) (k : Int × Int) : Below B w (put5 w' g o k) :=
  ((((hb.setCell (p := ⟨g, _, none⟩) hg _).setCell (p := ⟨g, _, none⟩) hg _).setCell (p := ⟨g, _, none⟩) hg _).setCell (p := ⟨g, _, none⟩) hg _).setCell (p := ⟨g, _, none⟩) hg _

theorem blk_put5 {w : World} {g : Nat} {cur : Array Value} (hc : Blk w g cur 66) (o : Nat) (k : Int × Int) : ∃ cur', Blk (put5 w g o k) g cur' 66 :=
  ⟨_, ((((hc.set _ _).set _ _).set _ _).set _ _).set _ _⟩
theorem qv_drew {w : World} {bq n : Nat} {h : Nat → Int × Int} {g cap : Nat} (hQ : QV w bq n h g cap) : QV w.drew bq n h g cap := hQ
theorem keeps_drew {w w' : World} (hk : Keeps w w') : Keeps w w'.drew := hk

theorem upd_upd (h : Nat → Int × Int) (t p : Nat) (hne : p ≠ t) : upd (upd h t (h p)) p (h t) = swp h t p := by
  funext j
  unfold upd swp
  by_cases e1 : j = t <;> by_cases e2 : j = p <;> simp [e1, e2] <;> omega

/-- The exchange of two events, one round of the sift. -/
theorem swap_step {w w3 : World} {bq n t p g cap : Nat} {hh goal : Nat → Int × Int} {kt kp : Int × Int} (ht : t < n) (hpt : p < t) (hp : p = (t - 1) / 2) (hkt : hh t = kt) (hkp : hh p = kp) (hl : kLess kt kp = true)
    (hS : sift t hh t = goal) (hQ : QV w3 bq n hh g cap) (hb : Below bq w w3) (hk : Keeps w w3) :
    (sift p (swp hh t p) p = goal) ∧ QV (put5 (put5 w3 g (t * 5) kp) g (p * 5) kt).drew bq n (swp hh t p) g cap ∧ Below bq w (put5 (put5 w3 g (t * 5) kp) g (p * 5) kt).drew ∧ Keeps w (put5 (put5 w3 g (t * 5) kp) g (p * 5) kt).drew := by
  subst hkt hkp
  have hQ2 := qv_put5 (qv_put5 hQ ht (hh p)) (show p < n by omega) (hh t)
  rw [upd_upd hh t p (by omega)] at hQ2
  obtain ⟨_, hg, cur, hc, _⟩ := hQ
  obtain ⟨cur2, hc2⟩ := blk_put5 hc (t * 5) (hh p)
  refine ⟨?_, qv_drew hQ2, (below_put5 (below_put5 hb (by omega) _ _) (by omega) _ _).drew, ?_⟩
  · rw [← hS, hp]
    exact (sift_go (by omega) (by rw [← hp]; exact hl)).symm
  · exact keeps_drew (keeps_put5 hc2 (keeps_put5 hc hk (t * 5) (hh p)) (p * 5) (hh t))

set_option maxHeartbeats 1000000 in
theorem push_any (bq n : Nat) (h : Nat → Int × Int) (k : Int × Int) (w : World) (hq : Q w bq n h) (hn : n ≤ 65536) :
    Calls Try.prog 37 #[.pointer (some ⟨bq, 0, none⟩), .agg #[.int .i64 k.1, .int .u64 k.2, .string ⟨#[]⟩, .pointer none, .pointer none]] w fun e w' => e = .returned (.tuple #[]) ∧ Q w' bq (n + 1) (pushK h n k) ∧ Below bq w w' ∧ Keeps w w' := by
  obtain ⟨ao, cap, xs, hb, hown, hx, hg⟩ := q_owns hq
  have hlen : Hid (xs.length = n * 5) := hown.1
  have hc0 : w.cell? ⟨bq, 0, none⟩ = some (.slice ao n cap) := hb.cellOf rfl
  have hf0 := hb.free 0
  have hlt := hb.lt
  obtain ⟨i0, hi, hz0, hz1, hz2⟩ := info_parts info66
  have hnews : Hid (∀ j u, (evc k)[j]? = some u → (((w.alloc (.cells #[.int .i64 k.1, .int .u64 k.2, .string ⟨#[]⟩, .pointer none, .pointer none] 66)).alloc (.cells #[.int .i64 k.1, .int .u64 k.2, .string ⟨#[]⟩, .pointer none, .pointer none] 66)).drew).cell? ((⟨w.heap.size + 1, 0, none⟩ : Addr).add j) = some u) := by
    intro j u hj
    have := cells_new (w.alloc (.cells #[.int .i64 k.1, .int .u64 k.2, .string ⟨#[]⟩, .pointer none, .pointer none] 66)) (evc k) 66 j u hj
    rw [show (w.alloc (.cells #[.int .i64 k.1, .int .u64 k.2, .string ⟨#[]⟩, .pointer none, .pointer none] 66)).heap.size = w.heap.size + 1 from by simp] at this
    exact this
  have h1c : Hid (∀ u ∈ evc k, u.oneCell' = true) := by
    intro u hu; simp [evc] at hu; rcases hu with rfl | rfl | rfl | rfl | rfl <;> rfl
  have HX : Hid (∀ j, j < n → ∀ c, c < 5 → xs[j * 5 + c]? = (evc (h j))[c]?) := hx
  have HG : Hid (∀ g, (Value.slice ao n cap).ownBlock = some g → bq < g ∧ ∃ cur, Blk w g cur 66) := hg
  have HI : Hid (Try.prog.info? 66 = some i0 ∧ i0.zero = some (.agg #[.int .i64 0, .int .u64 0, .string ⟨#[]⟩, .pointer none, .pointer none]) ∧ i0.size = 5 ∧ i0.bytes = 48) := ⟨hi, hz0, hz1, hz2⟩
  have HO : Hid (w.ownsRow (bq + 1) 66 5 (.slice ao n cap) n xs) := hown
  have HB : Hid (Blk w bq #[.slice ao n cap] 74) := hb
  clear hx hg hi hz0 hz1 hz2 hown hb hq
  go_enter Try.func37, Try.ntmps37
  go_wp2_with fail
  go_region_law (refine step_append_own rfl (.tmp 10) (.tmp 12) 74 rfl (bq + 1) 66 i0 _ 5 48 Try.underlying74 HI.out.1 HI.out.2.1 HI.out.2.2.1 HI.out.2.2.2 rfl (by decide) _ n xs rfl ((HO.out.alloc _).alloc _) ⟨w.heap.size + 1, 0, none⟩ 1 1 (evc k) rfl rfl hnews.out h1c.out (by unfold maxLen; omega) (by omega) (by simp; omega) ?_; intro v' w1 hown' hgrow; obtain ⟨g, cap', hv', hQ', hb', hk', hc', hf'⟩ := after_append HB.out HX.out hlen.out HG.out hown' hgrow; subst hv'; clear hown' hgrow; have HQ : Hid (QV _ _ _ _ _ _) := hQ'; clear hQ')
  all_goals
    have HK : Hid (Keeps _ _) := hk'
    clear hk'
    go_wp2_with fail
    generalize hW2 : w1.setCell ⟨bq, 0, none⟩ (.slice (some ⟨g, 0, none⟩) (n + 1) cap') = W2 at *
    go_loopw [5] (fun i wr => ∃ (t : Nat) (hh : Nat → Int × Int), t ≤ n ∧ i = .int .i64 t ∧ Hid (sift t hh t = pushK h n k) ∧ QV wr bq (n + 1) hh g cap' ∧ Below bq w wr ∧ Keeps w wr) (fun i _ => (intOf i).toNat)
    case atStart => exact ⟨n, upd h n k, Nat.le_refl _, rfl, rfl, HQ.out, hb', HK.out⟩
    case round =>
      obtain ⟨t, hh, ht, rfl, HS, hQ, hbel, hkp⟩ := hrel
      by_cases ht0 : t = 0
      · subst ht0
        go_wp2_with fail
        go_end0
        exact ⟨rfl, .inr ⟨g, cap', by have := HS.out; rw [sift_zero] at this; rw [← this]; exact hQ⟩, hbel, hkp⟩
      · obtain ⟨p, hpd⟩ : ∃ p, p = (t - 1) / 2 := ⟨_, rfl⟩
        have hp : Hid (((t : Int) - 1) / 2 = (p : Int)) := by show ((t : Int) - 1) / 2 = (p : Int); omega
        have hpt : p < t := by omega
        have hpd' : Hid (p = (t - 1) / 2) := hpd
        clear hpd
        obtain ⟨a0, a1, a2, a3, a4⟩ := qv_cells hQ (show t < n + 1 by omega)
        obtain ⟨b0, b1, b2, b3, b4⟩ := qv_cells hQ (show p < n + 1 by omega)
        have hfr := qv_free hQ
        have HQ2 : Hid (QV _ _ _ _ _ _) := hQ
        have HK2 : Hid (Keeps _ _) := hkp
        have hxt : (t : Int) < (n : Int) + 1 := by omega
        have hxp : (p : Int) < (n : Int) + 1 := by omega
        clear hQ hkp
        generalize hkt : hh t = kt at *
        generalize hkp : hh p = kp at *
        have HKT : Hid (hh t = kt ∧ hh p = kp) := ⟨hkt, hkp⟩
        clear hkt hkp hW2 hc' hf' HQ HK hb' hnews h1c HX HG HI HO HB hc0 hf0 hlen
        cases hl : kLess kt kp
        · have hl' : (!kLess kt kp) = true := by rw [hl]; rfl
          go_wp2_with fail
          rw [hp.out]
          go_quiet ((go_at_call 49; exact Calls.quiet_of (before_any _ _ _ _ kt kp _ a0 a1 b0 b1)))
          go_wp2_with fail
          go_end0
          exact ⟨rfl, .inr ⟨g, cap', by have := HS.out; rw [sift_stop (by rw [← hpd'.out, HKT.out.1, HKT.out.2]; exact hl)] at this; rw [← this]; exact qv_drewN HQ2.out nq⟩, below_drewN hbel nq, keeps_drewN HK2.out nq⟩
        · have hl' : (!kLess kt kp) = false := by rw [hl]; rfl
          go_wp2_with fail
          rw [hp.out]
          go_quiet ((go_at_call 49; exact Calls.quiet_of (before_any _ _ _ _ kt kp _ a0 a1 b0 b1)))
          go_wp2_with fail
          clear hl'
          replace HQ2 := qv_drewN HQ2.out nq
          replace HK2 := keeps_drewN HK2.out nq
          replace hbel := below_drewN hbel nq
          clear a0 a1 a2 a3 a4 b0 b1 b2 b3 b4 hfr
          generalize wr.drewN nq = W3 at *
          obtain ⟨a0, a1, a2, a3, a4⟩ := qv_cells HQ2 (show t < n + 1 by omega)
          obtain ⟨b0, b1, b2, b3, b4⟩ := qv_cells HQ2 (show p < n + 1 by omega)
          have hfr := qv_free HQ2
          rw [HKT.out.1] at a0 a1
          rw [HKT.out.2] at b0 b1
          have HQ3 : Hid (QV _ _ _ _ _ _) := HQ2
          have HK3 : Hid (Keeps _ _) := HK2
          clear HQ2 HK2
          go_region
          have hst := swap_step (show t < n + 1 by omega) hpt hpd'.out HKT.out.1 HKT.out.2 hl HS.out HQ3.out hbel HK3.out
          simp only [put5] at hst
          have HST : Hid (_ ∧ _ ∧ _ ∧ _) := hst
          clear hst hl
          go_wp2_with fail
          go_roundw
          case rel => exact ⟨p, swp hh t p, by omega, rfl, HST.out.1, HST.out.2.1, HST.out.2.2.1, HST.out.2.2.2⟩
          case measure => simp [intOf]; omega
end Go.Proofs.Qxb6612683a
