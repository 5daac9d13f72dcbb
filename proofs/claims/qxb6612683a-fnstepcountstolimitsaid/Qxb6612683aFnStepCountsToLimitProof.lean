import Derived.Test.Qxb6612683aSim
import Derived.ProofKit
import Derived.OpenShut
import Derived.ShutString
import Derived.ChangeOld
import Derived.Below
namespace Go.Proofs.Qxb6612683a.fnStepCountsToLimit
open Go.ChangeShapes Go.WideShapes Go.ChangeAt Go.RowKit
open Go.ChangeMaps (open_string shut_string)
set_option linter.unusedVariables false

theorem own : ownKnob Try.prog.godebug = none := by kernel_rfl

def cs0 (ms st : Int) : Array Value := simCs false ms st 0 0
theorem cs0_30 (ms st : Int) : (cs0 ms st)[30]? = some (.int .i64 st) := rfl
theorem cs0_17 (ms st : Int) : (cs0 ms st)[17]? = some (.int .i64 ms) := rfl
theorem cs0_28 (ms st : Int) : (cs0 ms st)[28]? = some (.string ⟨#[]⟩) := rfl
theorem cs0_sz (ms st : Int) : (cs0 ms st).size = 60 := rfl

/-- What stands in the sim's block after k calls. -/
def At (cs : Array Value) (ms st : Int) (rs : ByteArray) : Prop := cs.size = 60 ∧ cs[30]? = some (.int .i64 st) ∧ cs[17]? = some (.int .i64 ms) ∧ cs[28]? = some (.string rs)

theorem at_set30 {cs : Array Value} {ms st st' : Int} {rs : ByteArray} (h : At cs ms st rs) : At (cs.setIfInBounds 30 (.int .i64 st')) ms st' rs := by
  obtain ⟨h0, h1, h2, h3⟩ := h
  refine ⟨by simpa using h0, ?_, ?_, ?_⟩
  · rw [Array.getElem?_setIfInBounds_self_of_lt (by omega)]
  · rw [Array.getElem?_setIfInBounds_ne (by omega)]; exact h2
  · rw [Array.getElem?_setIfInBounds_ne (by omega)]; exact h3
theorem at_set28 {cs : Array Value} {ms st : Int} {rs rs' : ByteArray} (h : At cs ms st rs) : At (cs.setIfInBounds 28 (.string rs')) ms st rs' := by
  obtain ⟨h0, h1, h2, h3⟩ := h
  refine ⟨by simpa using h0, ?_, ?_, ?_⟩
  · rw [Array.getElem?_setIfInBounds_ne (by omega)]; exact h1
  · rw [Array.getElem?_setIfInBounds_ne (by omega)]; exact h2
  · rw [Array.getElem?_setIfInBounds_self_of_lt (by omega)]

theorem at0 (ms st : Int) : At (simCs false ms st 0 0) ms (st + ((min 0 (ms - st).toNat : Nat) : Int)) (if (ms - st).toNat < 0 then stepLimit else ⟨#[]⟩) := by
  refine ⟨cs0_sz ms st, ?_, cs0_17 ms st, ?_⟩
  · rw [Nat.zero_min]; simp only [Int.natCast_zero, Int.add_zero]; exact cs0_30 ms st
  · rw [if_neg (by omega)]; exact cs0_28 ms st

/-- The loop's relation at the head of round k: room = ms - st as a Nat. -/
def Rel (B : Nat) (w : World) (ms st : Int) (room k : Nat) (trues saw : Value) (wr : World) : Prop :=
  ∃ cs, Blk wr B cs 88 ∧ Below B w wr ∧ trues = .int .i64 (min k room : Nat) ∧ saw = .bool (decide (room < k)) ∧ At cs ms (st + (min k room : Nat)) (if room < k then stepLimit else ⟨#[]⟩)

set_option maxHeartbeats 1000000 in
theorem walkIn (ms st : Int) (n : Nat) (h0 : 0 ≤ st) (h1 : st ≤ ms) (h2 : ms ≤ 9223372036854775807) (hn : n ≤ 65536) (w : World) :
    Calls Try.prog 7 #[.int .i64 ms, .int .i64 st, .int .i64 n] w fun e w' => e = .returned (.bool true) ∧ Below w.heap.size w w' := by
  obtain ⟨room, hroom⟩ : ∃ room : Nat, ms = st + room := ⟨(ms - st).toNat, by omega⟩
  subst hroom
  go_enter Try.func7, Try.ntmps7
  go_wp2_with fail
  refine (newSim_any _ _ _ _ _).mono ?_
  rintro e w1 ⟨rfl, rfl⟩
  go_wp2_with fail
  go_loopw [9, 10, 11] (fun t s i wr => ∃ k : Nat, k ≤ n ∧ i = .int .i64 k ∧ Rel w.heap.size w (st + room) st room k t s wr) (fun _ _ i _ => n - (intOf i).toNat)
  case atStart => exact ⟨0, Nat.zero_le _, rfl, _, Blk.new _ _ _, (Below.refl _ _).alloc (Nat.le_refl _) _, by simp, by simp, by have := at0 (st + room) st; simpa using this⟩
  case round =>
    obtain ⟨k, hk, rfl, cs, hblk, hbel, ht, hs, hat⟩ := hrel
    by_cases hlt : k < n
    · by_cases hkr : k < room
      · rw [Nat.min_eq_left (by omega)] at ht hat
        rw [if_neg (by omega)] at hat
        rw [decide_eq_false (by omega)] at hs
        subst ht hs
        go_wp2_with fail
        refine (zstep_yes hblk hat.2.1 hat.2.2.1 (by omega)).mono ?_
        rintro e w2 ⟨rfl, hblk2, hb2⟩
        have hat2 := at_set30 (st' := wrap64 (st + k + 1)) hat
        have hw : wrap64 (st + k + 1) = st + ((k + 1 : Nat) : Int) := by unfold wrap64; omega
        rw [hw] at hat2 hblk2
        have hR : Rel w.heap.size w (st + room) st room (k + 1) (.int .i64 ((k + 1 : Nat) : Int)) (.bool false) w2 :=
          ⟨_, hblk2, hbel.trans hb2, by rw [Nat.min_eq_left (by omega)], by rw [decide_eq_false (by omega)], by rw [Nat.min_eq_left (by omega), if_neg (by omega)]; exact hat2⟩
        have HR : Hid (Rel _ _ _ _ _ _ _ _ _) := hR
        clear hR hat2 hblk2 hb2 hat hblk hbel hw
        go_wp2_with fail
        go_roundw
        case rel => exact ⟨k + 1, by omega, by go_num, HR.out⟩
        case measure => simp [intOf]; omega
      · rw [Nat.min_eq_right (by omega)] at ht hat
        subst ht
        go_wp2_with fail
        refine (zstep_no hblk hat.2.1 hat.2.2.1 hat.2.2.2).mono ?_
        rintro e w2 ⟨rfl, hblk2, hb2⟩
        have hat2 := at_set28 (rs' := stepLimit) hat
        have hR : Rel w.heap.size w (st + room) st room (k + 1) (.int .i64 (room : Int)) (.bool true) w2 :=
          ⟨_, hblk2, hbel.trans hb2, by rw [Nat.min_eq_right (by omega)], by rw [decide_eq_true (by omega)], by rw [Nat.min_eq_right (by omega), if_pos (by omega)]; exact hat2⟩
        have HR : Hid (Rel _ _ _ _ _ _ _ _ _) := hR
        clear hR hat2 hblk2 hb2 hat hblk hbel
        go_wp2_with fail
        go_roundw
        case rel => exact ⟨k + 1, by omega, by go_num, HR.out⟩
        case measure => simp [intOf]; omega
    · obtain rfl : k = n := by omega
      have c30 := hblk.cellOf hat.2.1
      have c28 := hblk.cellOf hat.2.2.2
      by_cases hkr : room < k
      · rw [Nat.min_eq_right (by omega)] at ht c30
        rw [if_pos hkr] at c28
        rw [decide_eq_true hkr] at hs
        subst ht hs
        clear hat hblk
        have hsl : (stepLimit.toList == [115, 116, 101, 112, 45, 108, 105, 109, 105, 116]) = true := by decide +kernel
        go_wp2_with fail
        refine (simSteps_any _ _ _ c30).mono ?_
        rintro e w2 ⟨rfl, rfl⟩
        go_wp2_with fail
        refine (simReason_any _ _ _ c28).mono ?_
        rintro e w2 ⟨rfl, rfl⟩
        go_wp2_with fail
        go_ret
        exact ⟨rfl, hbel⟩
      · rw [Nat.min_eq_left (by omega)] at ht c30
        rw [if_neg hkr] at c28
        rw [decide_eq_false hkr] at hs
        subst ht hs
        clear hat hblk
        go_wp2_with fail
        refine (simSteps_any _ _ _ c30).mono ?_
        rintro e w2 ⟨rfl, rfl⟩
        go_wp2_with fail
        refine (simReason_any _ _ _ c28).mono ?_
        rintro e w2 ⟨rfl, rfl⟩
        go_wp2_with fail
        go_ret
        exact ⟨rfl, hbel⟩

theorem walk (a0 : Int) (a1 : Int) (a2 : Int) (w0 : (Lit.int .i64 a0).wf = true) (w1 : (Lit.int .i64 a1).wf = true) (w2 : (Lit.int .i64 a2).wf = true) (w : World) :
    Calls Try.prog 7 #[.int .i64 a0, .int .i64 a1, .int .i64 a2] w fun e w' => e = .returned (.bool true) ∧ Below w.heap.size w w' := by
  have b0 : a0 ≤ 9223372036854775807 := (bounds_i64 w0).2
  by_cases c0 : a0 < 0
  · go_enter Try.func7, Try.ntmps7
    go_wp2
    go_ret
    exact ⟨rfl, Below.refl _ _⟩
  by_cases c1 : a1 < 0
  · go_enter Try.func7, Try.ntmps7
    go_wp2
    go_ret
    exact ⟨rfl, Below.refl _ _⟩
  by_cases c2 : a0 < a1
  · go_enter Try.func7, Try.ntmps7
    go_wp2
    go_ret
    exact ⟨rfl, Below.refl _ _⟩
  by_cases c3 : a2 < 0
  · go_enter Try.func7, Try.ntmps7
    go_wp2
    go_ret
    exact ⟨rfl, Below.refl _ _⟩
  by_cases c4 : 65536 < a2
  · go_enter Try.func7, Try.ntmps7
    go_wp2
    go_ret
    exact ⟨rfl, Below.refl _ _⟩
  obtain ⟨n, rfl⟩ := Int.eq_ofNat_of_zero_le (show 0 ≤ a2 by omega)
  exact walkIn a0 a1 n (by omega) (by omega) b0 (by omega) w

set_option maxRecDepth 100000 in
theorem lifted (os : Os) (started : os.Started) (H : Type) (enc : TypeId × Value → H) :
    ReturnsInHanded {} Try.checked os 7 .any (Rows.fnStepCountsToLimitSpec.pre6 enc Try.prog Try.f7 Rows.fnStepCountsToLimitRow.domain false) (Rows.fnStepCountsToLimitSpec.post enc Try.prog Try.f7 false true false false) := by
  refine returnsInHanded_of_change (C := Try.checked) own started (by kernel_rfl) Try.func7
    (ChangeSpec.witness6 (enc := enc) (C := Try.checked) false ⟨#[], #[.int .i64 0, .int .i64 0, .int .i64 0], []⟩ 8 (by kernel_rfl) (by kernel_rfl) (by kernel_rfl) (by kernel_rfl)) ?_
  intro W base args ds gs before hval0 hW hcnd _
  have hval : ∀ (j : Nat) t v, Try.f7.params[j]? = some t → args[j]? = some v → Value.okWide Try.prog W .any base t v := hval0
  have hW' := hW
  obtain ⟨p, q, hA0, hV, rfl, hfz, hnd⟩ := hW
  have hA : DataW.TrodAll enc Try.prog W 0 (fun _ => true) true Try.f7.params.toList args.toList ds p := hA0
  rw [Try.params7] at hA hval
  obtain ⟨v0, vs0, d0, ds0, p0, q0, hargs, rfl, rfl, h0, r0⟩ := trodAll_cons hA
  obtain ⟨v1, vs1, d1, ds1, p1, q1, rfl, rfl, rfl, h1, r1⟩ := trodAll_cons r0
  obtain ⟨v2, vs2, d2, ds2, p2, q2, rfl, rfl, rfl, h2, r2⟩ := trodAll_cons r1
  obtain ⟨rfl, rfl, rfl⟩ := trodAll_nil r2
  obtain rfl : args = #[v0, v1, v2] := by cases args; simp_all
  obtain ⟨rfl, rfl⟩ := trodVars_none hV
  obtain ⟨a0, rfl, rfl, rfl, w0⟩ := open_int Try.underlying3 (hval 0 3 v0 rfl rfl) h0
  obtain ⟨a1, rfl, rfl, rfl, w1⟩ := open_int Try.underlying3 (hval 1 3 v1 rfl rfl) h1
  obtain ⟨a2, rfl, rfl, rfl, w2⟩ := open_int Try.underlying3 (hval 2 3 v2 rfl rfl) h2
  clear hA0 hval0
  refine (walk a0 a1 a2 w0 w1 w2 W).mono fun e W' ⟨he, bel⟩ => ?_
  subst he
  exact ⟨_, rfl, _, _, _, [], _, [], hW', trodAll_mk1 (shut_bool Try.underlying4 _), (trodAll_cons_mk (shut_int Try.underlying3 w0) (trodAll_cons_mk (shut_int Try.underlying3 w1) (trodAll_cons_mk (shut_int Try.underlying3 w2) trodAll_mk0))), rfl, bel.frame _, fun h => by cases h⟩

theorem over : Rows.fnStepCountsToLimitRow.holds Try.pinned (OpenSpec.ofChange Rows.fnStepCountsToLimitSpec) :=
  OpenClaim.holds_of_wide 7 Try.f7 rfl rfl rfl rfl rfl rfl rfl ⟨rfl, rfl, rfl, rfl, rfl⟩ rfl rfl rfl rfl rfl (by kernel_rfl) Try.func7 (by kernel_rfl)
    (of_decide_eq_true (by kernel_rfl)) (by unfold Func.isWrapper; first | (rw [if_pos (by decide +kernel)]; kernel_rfl) | (rw [if_neg (by decide +kernel)]; exact ⟨rfl, rfl⟩))
    (fun os started H enc _ => lifted os started H enc)

/-- The statement. -/
theorem proved : Rows.FnStepCountsToLimitSaid :=
  over
#print axioms proved
end Go.Proofs.Qxb6612683a.fnStepCountsToLimit
