/-
  FnStopSpinningConservesCount: the walk and the row.
-/
import Derived.Test.Qxb6612683aSim
import Derived.ProofKit
import Derived.OpenShut
import Derived.ShutString
import Derived.ChangeOld
import Derived.Below
import Derived.Deep.OwnRows
import Derived.Deep.Slices
namespace Go.Proofs.Qxb6612683a.fnStopSpinningConservesCount
open Go.ChangeShapes Go.WideShapes Go.ChangeAt Go.RowKit Go.Deep
set_option linter.unusedVariables false

theorem own : ownKnob Try.prog.godebug = none := by kernel_rfl
theorem laidOut : laidOutB Try.prog = true := by kernel_rfl
theorem info38 : (Try.prog.info? 38).map (fun i => (i.zero, i.size, i.bytes)) = some (some (.pointer none), 1, 8) := by kernel_rfl
theorem info4 : (Try.prog.info? 4).map (fun i => (i.zero, i.size, i.bytes)) = some (some (.bool false), 1, 1) := by kernel_rfl

theorem cs_44 (sp : Int) : (simCs false 0 0 sp 0)[44]? = some (.int .i64 sp) := rfl

/-- What the walk is told of a slice of one-cell elements that came in. -/
def Row1 (w : World) (a : Option Addr) (len : Nat) (V : Nat → Value) : Prop :=
  ∀ i, i < len → ∃ b off, a = some ⟨b, off, none⟩ ∧ b < w.heap.size ∧ w.cell? ⟨b, off + i, none⟩ = some (V i)

theorem zzBytes22 (a0 a1 : Option Addr) (l0 c0 l1 c1 : Nat) (sp : Int) (w : World) (h0 : l0 ≤ maxLen) (h1 : l1 ≤ maxLen) :
    Calls Try.prog 22 #[.slice a0 l0 c0, .slice a1 l1 c1, .int .i64 sp] w fun e w' => ∃ r, e = .returned (.bool r) ∧ w' = w ∧ (l0 ≤ 65536 → l1 ≤ 65536 → r = true) := by
  unfold maxLen at h0 h1
  go_enter Try.func22, Try.ntmps22
  go_wp2
  all_goals go_ret
  all_goals first | exact ⟨_, rfl, rfl, fun _ _ => rfl⟩ | exact ⟨_, rfl, rfl, fun _ _ => by omega⟩

set_option maxHeartbeats 400000 in
theorem walkEarly (a0 a1 : Option Addr) (l0 c0 l1 c1 : Nat) (sp : Int) (w : World) (h0 : l0 ≤ maxLen) (h1 : l1 ≤ maxLen) (hbig : 65536 < l0 ∨ 65536 < l1) :
    Calls Try.prog 6 #[.slice a0 l0 c0, .slice a1 l1 c1, .int .i64 sp] w fun e w' => e = .returned (.bool true) ∧ Below w.heap.size w w' := by
  have hz := zzBytes22 a0 a1 l0 c0 l1 c1 sp w h0 h1
  unfold maxLen at h0 h1
  go_enter Try.func6, Try.ntmps6
  go_wp2_with fail
  refine hz.mono ?_
  rintro e w' ⟨r, rfl, rfl, -⟩
  cases r
  · go_wp2_with fail
    go_ret
    exact ⟨rfl, Below.refl _ _⟩
  · by_cases hl : 65536 < l0
    · go_wp2_with fail
      go_ret
      exact ⟨rfl, Below.refl _ _⟩
    · have hl1 : 65536 < l1 := by omega
      go_wp2_with fail
      go_ret
      exact ⟨rfl, Below.refl _ _⟩

theorem getSome {cs : Array Value} {i n : Nat} (h : cs.size = n) (hi : i < n) : ∃ v, cs[i]? = some v := ⟨cs[i], by simp⟩

def R1 (B n i : Nat) (w : World) (sp : Int) (f : Nat → Bool) (wr : World) : Prop :=
  Below B w wr ∧ wr.heap.size = B + 3 + i ∧ Blk wr B (simCs false 0 0 sp 0) 88 ∧
  (∃ ts, ts.size = n ∧ Blk wr (B + 1) ts 38 ∧ ∀ j, j < i → ts[j]? = some (.pointer (some ⟨B + 3 + j, 0, none⟩))) ∧
  (∃ md, md.size = n ∧ Blk wr (B + 1 + 1) md 4 ∧ ∀ j, j < i → md[j]? = some (.bool (f j))) ∧
  ∀ j, j < i → Blk wr (B + 3 + j) #[.bool (f j)] 90

theorem r1_zero (w : World) (n : Nat) (sp : Int) (f : Nat → Bool) : R1 w.heap.size n 0 w sp f (((w.alloc (.cells (simCs false 0 0 sp 0) 88)).alloc (.cells (madeCells #[.pointer none] n) 38)).alloc (.cells (madeCells #[.bool false] n) 4)) := by
  refine ⟨(((Below.refl _ _).alloc (Nat.le_refl _) _).alloc (by simp) _).alloc (by simp; omega) _, by simp, ((Blk.new _ _ _).alloc _).alloc _, ⟨madeCells #[.pointer none] n, size_madeCells _ _, ?_, fun j hj => absurd hj (Nat.not_lt_zero _)⟩, ⟨madeCells #[.bool false] n, size_madeCells _ _, ?_, fun j hj => absurd hj (Nat.not_lt_zero _)⟩, fun j hj => absurd hj (Nat.not_lt_zero _)⟩
  · have := (Blk.new (w.alloc (.cells (simCs false 0 0 sp 0) 88)) (madeCells #[.pointer none] n) 38).alloc (.cells (madeCells #[.bool false] n) 4)
    simpa using this
  · have := Blk.new ((w.alloc (.cells (simCs false 0 0 sp 0) 88)).alloc (.cells (madeCells #[.pointer none] n) 38)) (madeCells #[.bool false] n) 4
    simpa using this

theorem r1_succ {B n i : Nat} {w : World} {sp : Int} {f : Nat → Bool} {wr : World} (hi : i < n) (h : R1 B n i w sp f wr) :
    R1 B n (i + 1) w sp f (((wr.alloc (.cells #[.bool (f i)] 90)).setCell ⟨B + 1, i, none⟩ (.pointer (some ⟨wr.heap.size, 0, none⟩))).setCell ⟨B + 1 + 1, i, none⟩ (.bool (f i))) := by
  obtain ⟨hbel, hsz, hsim, ⟨ts, hts, hbt, htj⟩, ⟨md, hmd, hbm, hmj⟩, hth⟩ := h
  refine ⟨((hbel.alloc (by omega) _).setCell (p := ⟨B + 1, i, none⟩) (by show B ≤ B + 1; omega) _).setCell (p := ⟨B + 1 + 1, i, none⟩) (by show B ≤ B + 1 + 1; omega) _, ?_, ?_, ⟨ts.setIfInBounds i (.pointer (some ⟨wr.heap.size, 0, none⟩)), by simpa using hts, ?_, ?_⟩, ⟨md.setIfInBounds i (.bool (f i)), by simpa using hmd, ?_, ?_⟩, ?_⟩
  · simp; omega
  · exact ((hsim.alloc _).setOther _ _ _ (by omega)).setOther _ _ _ (by omega)
  · exact ((hbt.alloc _).set _ _).setOther _ _ _ (by omega)
  · intro j hj
    by_cases e : j = i
    · subst e
      rw [Array.getElem?_setIfInBounds_self_of_lt (by omega), hsz]
    · rw [Array.getElem?_setIfInBounds_ne (Ne.symm e)]; exact htj j (by omega)
  · exact (((hbm.alloc _).setOther _ _ _ (by omega))).set _ _
  · intro j hj
    by_cases e : j = i
    · subst e
      rw [Array.getElem?_setIfInBounds_self_of_lt (by omega)]
    · rw [Array.getElem?_setIfInBounds_ne (Ne.symm e)]; exact hmj j (by omega)
  · intro j hj
    by_cases e : j = i
    · subst e
      have := Blk.new wr #[.bool (f j)] 90
      rw [hsz] at this
      exact (this.setOther _ _ _ (by omega)).setOther _ _ _ (by omega)
    · exact (((hth j (by omega)).alloc _).setOther _ _ _ (by omega)).setOther _ _ _ (by omega)

/-- While the script of stops runs: the flags as they stand (h), the run's count q. -/
def R2 (B n : Nat) (w : World) (q : Int) (h : Nat → Bool) (wr : World) : Prop :=
  Below B w wr ∧ (∃ cs, cs.size = 60 ∧ Blk wr B cs 88 ∧ cs[44]? = some (.int .i64 q)) ∧
  (∃ ts, Blk wr (B + 1) ts 38 ∧ ∀ j, j < n → ts[j]? = some (.pointer (some ⟨B + 3 + j, 0, none⟩))) ∧
  (∃ md, md.size = n ∧ Blk wr (B + 1 + 1) md 4 ∧ ∀ j, j < n → md[j]? = some (.bool (h j))) ∧
  ∀ j, j < n → Blk wr (B + 3 + j) #[.bool (h j)] 90

theorem r2_start {B n : Nat} {w : World} {sp : Int} {f : Nat → Bool} {wr : World} (h : R1 B n n w sp f wr) : R2 B n w sp f wr := by
  obtain ⟨hbel, hsz, hsim, ⟨ts, hts, hbt, htj⟩, ⟨md, hmd, hbm, hmj⟩, hth⟩ := h
  exact ⟨hbel, ⟨_, rfl, hsim, cs_44 sp⟩, ⟨ts, hbt, htj⟩, ⟨md, hmd, hbm, hmj⟩, hth⟩

theorem wrap_sub_sub (q z : Int) : wrap64 (wrap64 (q - 1) - wrap64 (z - 1)) = wrap64 (q - z) := by unfold wrap64; omega

theorem r2_stop {B n m : Nat} {w : World} {q : Int} {h : Nat → Bool} {wr : World} (hm : m < n) (hR : R2 B n w q h wr) :
    R2 B n w (wrap64 (q - 1)) (fun j => if j = m then false else h j) (((wr.setCell ⟨B + 3 + m, 0, none⟩ (.bool false)).setCell ⟨B, 44, none⟩ (.int .i64 (wrap64 (q - 1)))).setCell ⟨B + 1 + 1, m, none⟩ (.bool false)) := by
  obtain ⟨hbel, ⟨cs, hcs, hsim, hcq⟩, ⟨ts, hbt, htj⟩, ⟨md, hmd, hbm, hmj⟩, hth⟩ := hR
  refine ⟨((hbel.setCell (p := ⟨B + 3 + m, 0, none⟩) (by show B ≤ B + 3 + m; omega) _).setCell (p := ⟨B, 44, none⟩) (Nat.le_refl _) _).setCell (p := ⟨B + 1 + 1, m, none⟩) (by show B ≤ B + 1 + 1; omega) _,
    ⟨cs.setIfInBounds 44 (.int .i64 (wrap64 (q - 1))), by simpa using hcs, ((hsim.setOther _ _ _ (by omega)).set _ _).setOther _ _ _ (by omega), by rw [Array.getElem?_setIfInBounds_self_of_lt (by omega)]⟩,
    ⟨ts, ((hbt.setOther _ _ _ (by omega)).setOther _ _ _ (by omega)).setOther _ _ _ (by omega), htj⟩,
    ⟨md.setIfInBounds m (.bool false), by simpa using hmd, ((hbm.setOther _ _ _ (by omega)).setOther _ _ _ (by omega)).set _ _, ?_⟩, ?_⟩
  · intro j hj
    by_cases e : j = m
    · subst e
      rw [Array.getElem?_setIfInBounds_self_of_lt (by omega)]; simp
    · rw [Array.getElem?_setIfInBounds_ne (Ne.symm e)]; simp only [if_neg e]; exact hmj j hj
  · intro j hj
    by_cases e : j = m
    · subst e
      have := (hth j hj).set 0 (.bool false)
      simp only [if_true]
      exact (this.setOther _ _ _ (by omega)).setOther _ _ _ (by omega)
    · simp only [if_neg e]
      exact (((hth j hj).setOther _ _ _ (by omega)).setOther _ _ _ (by omega)).setOther _ _ _ (by omega)

theorem r2_drewN {B n : Nat} {w : World} {q : Int} {h : Nat → Bool} {wr : World} (hR : R2 B n w q h wr) (nq : Nat) : R2 B n w q h (wr.drewN nq) := by
  obtain ⟨hbel, ⟨cs, hcs, hsim, hcq⟩, ⟨ts, hbt, htj⟩, ⟨md, hmd, hbm, hmj⟩, hth⟩ := hR
  exact ⟨below_drewN hbel nq, ⟨cs, hcs, hsim.drewN nq, hcq⟩, ⟨ts, hbt.drewN nq, htj⟩, ⟨md, hmd, hbm.drewN nq, hmj⟩, fun j hj => (hth j hj).drewN nq⟩

set_option maxHeartbeats 1000000 in
theorem walkIn (a0 a1 : Option Addr) (l0 c0 l1 c1 : Nat) (f : Nat → Bool) (g : Nat → Int) (sp : Int) (w : World) (h0 : l0 ≤ 65536) (h1 : l1 ≤ 65536)
    (r0 : Row1 w a0 l0 fun i => .bool (f i)) (r1 : Row1 w a1 l1 fun i => .int .i64 (g i)) :
    Calls Try.prog 6 #[.slice a0 l0 c0, .slice a1 l1 c1, .int .i64 sp] w fun e w' => e = .returned (.bool true) ∧ Below w.heap.size w w' := by
  have hz := zzBytes22 a0 a1 l0 c0 l1 c1 sp w (by unfold maxLen; omega) (by unfold maxLen; omega)
  have hmT := fun w => run_make_row' (P := Try.prog) 45 38 (.pointer none) 8 Try.underlying45 info38 rfl .i64 .i64 l0 (by omega) (by omega) w
  have hmM := fun w => run_make_row' (P := Try.prog) 35 4 (.bool false) 1 Try.underlying35 info4 rfl .i64 .i64 l0 (by omega) (by omega) w
  go_enter Try.func6, Try.ntmps6
  go_wp2_with fail
  refine hz.mono ?_
  rintro e w ⟨r, rfl, rfl, hr⟩
  obtain rfl := hr h0 h1
  clear hr hz
  go_wp2_with fail
  refine (newSimSpinning_any _ _).mono ?_
  rintro e w1 ⟨rfl, rfl⟩
  go_wp2_with fail
  generalize hW : ((w.alloc (.cells (simCs false 0 0 sp 0) 88)).alloc (.cells (madeCells #[.pointer none] l0) 38)).alloc (.cells (madeCells #[.bool false] l0) 4) = W0
  have hR1 : R1 w.heap.size l0 0 w sp f W0 := by rw [← hW]; exact r1_zero _ _ _ _
  clear hW hmT hmM
  go_loopw [10, 11] (fun l i wr => ∃ k : Nat, k ≤ l0 ∧ i = .int .i64 k ∧ (∃ z, l = .int .i64 z) ∧ R1 w.heap.size l0 k w sp f wr) (fun _ i _ => l0 - (intOf i).toNat)
  case atStart => exact ⟨0, Nat.zero_le _, rfl, ⟨0, rfl⟩, hR1⟩
  case round =>
    obtain ⟨k, hk, rfl, ⟨z, rfl⟩, hR⟩ := hrel
    by_cases hlt : k < l0
    · obtain ⟨b, off, rfl, hb, hc⟩ := r0 k hlt
      have hci : wr.cell? ⟨b, off + k, none⟩ = some (.bool (f k)) := by rw [hR.1.cell (by exact hb)]; exact hc
      have hR0 := hR
      obtain ⟨hbel, hsz, hsim, ⟨ts, hts, hbt, htj⟩, ⟨md, hmd, hbm, hmj⟩, hth⟩ := hR
      go_wp2_with fail
      refine (newThread_any _ _).mono ?_
      rintro e w2 ⟨rfl, rfl⟩
      have hS := r1_succ hlt hR0
      have hbt1 := hbt.alloc (.cells #[.bool (f k)] 90)
      have hbm1 := hbm.alloc (.cells #[.bool (f k)] 90)
      have hci1 : (wr.alloc (.cells #[.bool (f k)] 90)).cell? ⟨b, off + k, none⟩ = some (.bool (f k)) := by rw [World.cell?_alloc_past _ _ _ (by omega)]; exact hci
      clear hR0 hci hc
      generalize wr.alloc (.cells #[.bool (f k)] 90) = W1 at *
      obtain ⟨v1, hv1⟩ := getSome hts hlt
      obtain ⟨v2, hv2⟩ := getSome hmd hlt
      have hc1 : W1.cell? ⟨w.heap.size + 1, k, none⟩ = some v1 := hbt1.cellOf hv1
      have hf1 := hbt1.free k
      have hc2 : W1.cell? ⟨w.heap.size + 1 + 1, k, none⟩ = some v2 := hbm1.cellOf hv2
      have hf2 := hbm1.free k
      clear hbt1 hbm1 hbel hsim hbt htj hbm hmj hth hsz hts hmd hv1 hv2
      have HS : Hid (R1 _ _ _ _ _ _ _) := hS
      clear hS
      generalize f k = fv at *
      cases fv
      · go_wp2_with fail
        go_roundw
        case rel => exact ⟨k + 1, by omega, by go_num, ⟨_, rfl⟩, HS.out⟩
        case measure => simp [intOf]; omega
      · go_wp2_with fail
        go_roundw
        case rel => exact ⟨k + 1, by omega, by go_num, ⟨_, rfl⟩, HS.out⟩
        case measure => simp [intOf]; omega
    · obtain rfl : k = l0 := by omega
      have hR2 := r2_start hR
      clear hR hR1 r0
      go_wp2_with fail
      have HR2 : Hid (R2 _ _ _ _ _ _) := hR2
      clear hR2
      go_loopw [10, 13] (fun l i wr => ∃ t : Nat, t ≤ l1 ∧ i = .int .i64 t ∧ ∃ z2 q h, l = .int .i64 z2 ∧ Hid (wrap64 (q - z2) = wrap64 (sp - z)) ∧ R2 w.heap.size k w q h wr) (fun _ i _ => l1 - (intOf i).toNat)
      case atStart => exact ⟨0, Nat.zero_le _, rfl, z, sp, f, rfl, rfl, HR2.out⟩
      case round =>
        clear HR2
        obtain ⟨t, ht, rfl, z2, q, h, rfl, HQ, hR⟩ := hrel
        by_cases hlt2 : t < l1
        · obtain ⟨b, off, rfl, hb, hc⟩ := r1 t hlt2
          have hci : wr.cell? ⟨b, off + t, none⟩ = some (.int .i64 (g t)) := by rw [hR.1.cell (by exact hb)]; exact hc
          generalize g t = c at *
          clear hc
          have HR : Hid (R2 _ _ _ _ _ _) := hR
          by_cases hneg : c < 0
          · clear hR
            go_wp2_with fail
            go_roundw
            case rel => exact ⟨t + 1, by omega, by go_num, z2, q, h, rfl, HQ, HR.out⟩
            case measure => simp [intOf]; omega
          by_cases hbig : (k : Int) ≤ c
          · clear hR
            go_wp2_with fail
            go_roundw
            case rel => exact ⟨t + 1, by omega, by go_num, z2, q, h, rfl, HQ, HR.out⟩
            case measure => simp [intOf]; omega
          obtain ⟨m, rfl⟩ := Int.eq_ofNat_of_zero_le (show 0 ≤ c by omega)
          have hmk : m < k := by omega
          obtain ⟨hbel, ⟨cs, hcs, hsim, hcq⟩, ⟨ts, hbt, htj⟩, ⟨md, hmd, hbm, hmj⟩, hth⟩ := hR
          have hct := hbt.cellOf (htj m hmk)
          have hcm := hbm.cellOf (hmj m hmk)
          have hfm := hbm.free m
          have hcth : wr.cell? ⟨w.heap.size + 3 + m, 0, none⟩ = some (.bool (h m)) := (hth m hmk).cellOf rfl
          have hfth := (hth m hmk).free 0
          have hsq := hsim.cellOf hcq
          have hsf := hsim.free 44
          cases hhm : h m
          · rw [hhm] at hcm hcth
            clear hbel hcs hsim hcq hbt htj hmd hbm hmj hth
            go_wp2_with fail
            refine (zstop_no _ _ _ hcth).mono ?_
            rintro e w2 ⟨rfl, rfl⟩
            go_wp2_with fail
            refine (simSpinning_any _ _ _ hsq).mono ?_
            rintro e w2 ⟨rfl, rfl⟩
            have hQ := HQ.out
            go_wp2_with fail
            clear hQ
            go_roundw
            case rel => exact ⟨t + 1, by omega, by go_num, z2, q, h, rfl, HQ, HR.out⟩
            case measure => simp [intOf]; omega
          · rw [hhm] at hcm hcth
            have hS := r2_stop hmk HR.out
            have hbm2 := (hbm.setOther (w.heap.size + 3 + m) 0 (.bool false) (by omega)).setOther w.heap.size 44 (.int .i64 (wrap64 (q - 1))) (by omega)
            have hsim2 := (hsim.setOther (w.heap.size + 3 + m) 0 (.bool false) (by omega)).set 44 (.int .i64 (wrap64 (q - 1)))
            clear hbel hcq hbt htj hmd hbm hth HR
            go_wp2_with fail
            refine (zstop_yes _ _ _ _ (by omega) hcth hfth hsq hsf).mono ?_
            rintro e w2 ⟨rfl, rfl⟩
            generalize (wr.setCell ⟨w.heap.size + 3 + m, 0, none⟩ (.bool false)).setCell ⟨w.heap.size, 44, none⟩ (.int .i64 (wrap64 (q - 1))) = W2 at *
            have HS : Hid (R2 _ _ _ _ _ _) := hS
            clear hS hct hcm hfm hcth hfth hsq hsf hci
            have hcm := hbm2.cellOf (hmj m hmk)
            rw [hhm] at hcm
            have hfm := hbm2.free m
            have hsq : W2.cell? ⟨w.heap.size, 44, none⟩ = some (.int .i64 (wrap64 (q - 1))) := hsim2.cellOf (by rw [Array.getElem?_setIfInBounds_self_of_lt (by omega)])
            have HQ2 : Hid (wrap64 (wrap64 (q - 1) - wrap64 (z2 - 1)) = wrap64 (sp - z)) := by
              have := HQ.out; rw [← this]; exact wrap_sub_sub q z2
            clear hbm2 hsim2 hmj hhm HQ hsim hcs
            go_wp2_with fail
            refine (simSpinning_any _ _ _ (by rw [cell_setOther _ _ _ _ _ _ (by omega)]; exact hsq)).mono ?_
            rintro e w2 ⟨rfl, rfl⟩
            have hQ := HQ2.out
            go_wp2_with fail
            clear hQ
            go_roundw
            case rel => exact ⟨t + 1, by omega, by go_num, wrap64 (z2 - 1), wrap64 (q - 1), _, rfl, HQ2, HS.out⟩
            case measure => simp [intOf]; omega
        · obtain rfl : t = l1 := by omega
          clear HQ r1
          go_wp2_with fail
          have HR : Hid (R2 _ _ _ _ _ _) := hR
          clear hR
          go_loopw [16] (fun i wq => ∃ t2 : Nat, t2 ≤ k ∧ i = .int .i64 t2 ∧ R2 w.heap.size k w q h wq) (fun i _ => k - (intOf i).toNat)
          case atStart => exact ⟨0, Nat.zero_le _, rfl, HR.out⟩
          case round =>
            clear HR
            obtain ⟨t2, ht2, rfl, hR⟩ := hrel
            have HR : Hid (R2 _ _ _ _ _ _) := hR
            by_cases hlt3 : t2 < k
            · obtain ⟨hbel, ⟨cs, hcs, hsim, hcq⟩, ⟨ts, hbt, htj⟩, ⟨md, hmd, hbm, hmj⟩, hth⟩ := hR
              have hct := hbt.cellOf (htj t2 hlt3)
              have hcm := hbm.cellOf (hmj t2 hlt3)
              have hcth := (hth t2 hlt3).cellOf (i := 0) (v := .bool (h t2)) rfl
              clear hbel hcs hsim hcq hbt htj hmd hbm hmj hth
              generalize h t2 = hv at *
              have hlt4 : (t2 : Int) < (k : Int) := by omega
              go_wp2_with fail
              go_quiet ((go_at_call 20; exact Calls.quiet_of_same (threadSpinning_any _ _ _ hcth)))
              go_wp2_with fail
              go_roundw
              case rel => exact ⟨t2 + 1, by omega, by go_num, r2_drewN HR.out nq⟩
              case measure => simp [intOf]; omega
            · obtain rfl : t2 = k := by omega
              go_wp2_with fail
              go_ret
              exact ⟨rfl, hR.1⟩

theorem walk (a0 : Option Addr) (len0 cap0 : Nat) (z0 : Nat → Bool) (a1 : Option Addr) (len1 cap1 : Nat) (z1 : Nat → Int) (a2 : Int) (w : World)
    (w0 : len0 ≤ maxLen ∧ Row1 w a0 len0 fun i => .bool (z0 i)) (w1 : len1 ≤ maxLen ∧ Row1 w a1 len1 fun i => .int .i64 (z1 i)) :
    Calls Try.prog 6 #[.slice a0 len0 cap0, .slice a1 len1 cap1, .int .i64 a2] w fun e w' => e = .returned (.bool true) ∧ Below w.heap.size w w' := by
  by_cases hbig : 65536 < len0 ∨ 65536 < len1
  · exact walkEarly a0 a1 len0 cap0 len1 cap1 a2 w w0.1 w1.1 hbig
  · exact walkIn a0 a1 len0 cap0 len1 cap1 z0 z1 a2 w (by omega) (by omega) w0.2 w1.2

theorem cell_lt {w : World} {a : Addr} {v : Value} (h : w.cell? a = some v) : a.block < w.heap.size := by
  by_cases hb : a.block < w.heap.size
  · exact hb
  · simp [World.cell?, Array.getElem?_eq_none (show w.heap.size ≤ a.block by omega)] at h

theorem row1_of {w : World} {a : Addr} {len cap : Nat} {V : Nat → Value} (hl : len ≤ cap) (h : ∀ i, i < cap → w.cell? (a.add i) = some (V i)) : Row1 w (some a) len V := by
  intro i hi
  obtain ⟨b, off, spot⟩ := a
  have h0 := h i (by omega)
  have hs : spot = none := by simpa [Addr.add] using World.cell?_spot (h 0 (by omega))
  subst hs
  rw [add_plain] at h0
  exact ⟨b, off, rfl, cell_lt h0, h0⟩

theorem row_bools {H : Type} {enc : TypeId × Value → H} {w : World} {fuel : Nat} {a : Option Addr} {len cap : Nat} {x : DataW H × List MemPlace}
    (h : DataW.trod enc Try.prog w 0 (fun _ => true) true fuel 35 [.slice a len cap] = some x) : ∃ f : Nat → Bool, len ≤ maxLen ∧ Row1 w a len fun i => .bool (f i) := by
  rcases open_slice1 Try.underlying35 (by kernel_rfl) h with ⟨hcs, _⟩ | ⟨a', len', cap', m, n, V, D, Pl, hcs, _, hl, hm, hmm, _, hx⟩
  · simp at hcs
    obtain ⟨rfl, rfl, rfl⟩ := hcs
    exact ⟨fun _ => false, Nat.zero_le _, fun i hi => absurd hi (Nat.not_lt_zero _)⟩
  · simp at hcs
    obtain ⟨rfl, rfl, rfl⟩ := hcs
    simp only [if_true] at hmm
    subst hmm
    obtain ⟨B, hB⟩ := choose_lt (α := Bool) (p := fun i b => V i = .bool b) (fun i hi => by
      obtain ⟨b, h1, h2⟩ := DataW.trod_bool Try.underlying4 (hx i hi).2
      exact ⟨b, by simpa using h1⟩)
    exact ⟨B, by omega, row1_of hl fun i hi => by rw [(hx i hi).1, hB i hi]⟩

theorem row_ints {H : Type} {enc : TypeId × Value → H} {w : World} {fuel : Nat} {a : Option Addr} {len cap : Nat} {x : DataW H × List MemPlace}
    (h : DataW.trod enc Try.prog w 0 (fun _ => true) true fuel 34 [.slice a len cap] = some x) : ∃ f : Nat → Int, len ≤ maxLen ∧ Row1 w a len fun i => .int .i64 (f i) := by
  rcases open_ints Try.underlying34 Try.underlying3 (by kernel_rfl) h with ⟨hcs, _⟩ | ⟨a', len', cap', zs, hcs, _, hl, hm, hz, _, hcell, _⟩
  · simp at hcs
    obtain ⟨rfl, rfl, rfl⟩ := hcs
    exact ⟨fun _ => 0, Nat.zero_le _, fun i hi => absurd hi (Nat.not_lt_zero _)⟩
  · simp at hcs
    obtain ⟨rfl, rfl, rfl⟩ := hcs
    simp only [if_true] at hz
    exact ⟨fun i => zs.getD i 0, by omega, row1_of hl fun i hi => hcell i (by omega)⟩

set_option maxRecDepth 100000 in
theorem lifted (os : Os) (started : os.Started) (H : Type) (enc : TypeId × Value → H) :
    ReturnsInHanded {} Try.checked os 6 .any (Rows.fnStopSpinningConservesCountSpec.pre6 enc Try.prog Try.f6 Rows.fnStopSpinningConservesCountRow.domain false) (Rows.fnStopSpinningConservesCountSpec.post enc Try.prog Try.f6 false true false false) := by
  refine returnsInHanded_of_change (C := Try.checked) own started (by kernel_rfl) Try.func6
    (ChangeSpec.witness6 (enc := enc) (C := Try.checked) false ⟨#[], #[.slice none 0 0, .slice none 0 0, .int .i64 0], []⟩ 8 (by kernel_rfl) (by kernel_rfl) (by kernel_rfl) (by kernel_rfl)) ?_
  intro W base args ds gs before hval0 hW hcnd _
  have hval : ∀ (j : Nat) t v, Try.f6.params[j]? = some t → args[j]? = some v → Value.okWide Try.prog W .any base t v := hval0
  have hW' := hW
  obtain ⟨p, q, hA0, hV, rfl, hfz, hnd⟩ := hW
  have hA : DataW.TrodAll enc Try.prog W 0 (fun _ => true) true Try.f6.params.toList args.toList ds p := hA0
  rw [Try.params6] at hA hval
  obtain ⟨v0, vs0, d0, ds0, p0, q0, hargs, rfl, rfl, h0, r0⟩ := trodAll_cons hA
  obtain ⟨v1, vs1, d1, ds1, p1, q1, rfl, rfl, rfl, h1, r1⟩ := trodAll_cons r0
  obtain ⟨v2, vs2, d2, ds2, p2, q2, rfl, rfl, rfl, h2, r2⟩ := trodAll_cons r1
  obtain ⟨rfl, rfl, rfl⟩ := trodAll_nil r2
  obtain rfl : args = #[v0, v1, v2] := by cases args; simp_all
  obtain ⟨rfl, rfl⟩ := trodVars_none hV
  obtain ⟨a0, len0, cap0, rfl⟩ := okWide_slice Try.underlying35 (hval 0 35 v0 rfl rfl)
  have k0 := h0
  have lt0 : ∀ x ∈ p0, x.block < W.heap.size := by obtain ⟨m, hm⟩ := k0; exact DataW.trod_lt m _ _ _ hm
  obtain ⟨z0, w0⟩ : ∃ f : Nat → Bool, len0 ≤ maxLen ∧ Row1 W a0 len0 fun i => .bool (f i) := by obtain ⟨fuel, hf⟩ := h0; exact row_bools hf
  obtain ⟨a1, len1, cap1, rfl⟩ := okWide_slice Try.underlying34 (hval 1 34 v1 rfl rfl)
  have k1 := h1
  have lt1 : ∀ x ∈ p1, x.block < W.heap.size := by obtain ⟨m, hm⟩ := k1; exact DataW.trod_lt m _ _ _ hm
  obtain ⟨z1, w1⟩ : ∃ f : Nat → Int, len1 ≤ maxLen ∧ Row1 W a1 len1 fun i => .int .i64 (f i) := by obtain ⟨fuel, hf⟩ := h1; exact row_ints hf
  obtain ⟨a2, rfl, rfl, rfl, w2⟩ := open_int Try.underlying3 (hval 2 3 v2 rfl rfl) h2
  clear hA0 hval0
  refine (walk a0 len0 cap0 z0 a1 len1 cap1 z1 a2 W w0 w1).mono fun e W' ⟨he, bel⟩ => ?_
  subst he
  exact ⟨_, rfl, _, _, _, [], _, [], hW', trodAll_mk1 (shut_bool Try.underlying4 _), (trodAll_cons_mk (Below.trod laidOut (by kernel_rfl) (of_decide_eq_true (by kernel_rfl)) k0 bel lt0) (trodAll_cons_mk (Below.trod laidOut (by kernel_rfl) (of_decide_eq_true (by kernel_rfl)) k1 bel lt1) (trodAll_cons_mk (shut_int Try.underlying3 w2) trodAll_mk0))), rfl, bel.frame _, fun h => by cases h⟩

theorem over : Rows.fnStopSpinningConservesCountRow.holds Try.pinned (OpenSpec.ofChange Rows.fnStopSpinningConservesCountSpec) :=
  OpenClaim.holds_of_wide 6 Try.f6 rfl rfl rfl rfl rfl rfl rfl ⟨rfl, rfl, rfl, rfl, rfl⟩ rfl rfl rfl rfl rfl (by kernel_rfl) Try.func6 (by kernel_rfl)
    (of_decide_eq_true (by kernel_rfl)) (by unfold Func.isWrapper; first | (rw [if_pos (by decide +kernel)]; kernel_rfl) | (rw [if_neg (by decide +kernel)]; exact ⟨rfl, rfl⟩))
    (fun os started H enc _ => lifted os started H enc)

/-- The statement. -/
theorem proved : Rows.FnStopSpinningConservesCountSaid :=
  over
#print axioms proved
end Go.Proofs.Qxb6612683a.fnStopSpinningConservesCount
