/-
  The event queue in memory: the predicate Q, one append, and the contract of event.before.
-/
import Derived.Test.Qxb6612683aSimNew
import Derived.BigRegion
import Derived.Deep.RegionLaw
namespace Go.Proofs.Qxb6612683a
open Go.RowKit

/-- An event comes first: an earlier instant, or the same one and an earlier seq. -/
def kLess (a b : Int × Int) : Bool := decide (a.1 < b.1) || ((a.1 == b.1) && decide (a.2 < b.2))

theorem before_any (g1 o1 g2 o2 : Nat) (a b : Int × Int) (w : World) (h1 : w.cell? ⟨g1, o1, none⟩ = some (.int .i64 a.1)) (h2 : w.cell? ⟨g1, o1 + 1, none⟩ = some (.int .u64 a.2))
    (h3 : w.cell? ⟨g2, o2, none⟩ = some (.int .i64 b.1)) (h4 : w.cell? ⟨g2, o2 + 1, none⟩ = some (.int .u64 b.2)) :
    Calls Try.prog 49 #[.pointer (some ⟨g1, o1, none⟩), .pointer (some ⟨g2, o2, none⟩)] w fun e w' => e = .returned (.bool (kLess a b)) ∧ ∃ n, w' = w.drewN n := by
  obtain ⟨a1, a2⟩ := a
  obtain ⟨b1, b2⟩ := b
  simp only at h1 h2 h3 h4
  by_cases c1 : a1 < b1
  · have e1 : kLess (a1, a2) (b1, b2) = true := by simp [kLess, c1]
    rw [e1]
    go_enter Try.func49, Try.ntmps49
    go_wp2
    go_quiet (fail)
    go_wp2
    go_ret
    exact ⟨rfl, _, rfl⟩
  · have d1 : decide (a1 < b1) = false := by simpa using c1
    by_cases c2 : a1 = b1
    · have d2 : (a1 == b1) = true := by simpa using c2
      have e1 : kLess (a1, a2) (b1, b2) = decide (a2 < b2) := by simp only [kLess, d1, d2, Bool.false_or, Bool.true_and]
      rw [e1]
      clear c2 e1
      go_enter Try.func49, Try.ntmps49
      go_wp2
      go_quiet (fail)
      go_wp2
      go_ret
      exact ⟨rfl, _, rfl⟩
    · have d2 : (a1 == b1) = false := by simpa using c2
      have e1 : kLess (a1, a2) (b1, b2) = false := by simp only [kLess, d1, d2, Bool.false_or, Bool.false_and]
      rw [e1]
      clear c2 e1
      go_enter Try.func49, Try.ntmps49
      go_wp2
      go_quiet (fail)
      go_wp2
      go_ret
      exact ⟨rfl, _, rfl⟩

theorem info66 : (Try.prog.info? 66).map (fun i => (i.zero, i.size, i.bytes)) = some (some (.agg #[.int .i64 0, .int .u64 0, .string ⟨#[]⟩, .pointer none, .pointer none]), 5, 48) := by kernel_rfl

def evc (k : Int × Int) : List Value := [.int .i64 k.1, .int .u64 k.2, .string ⟨#[]⟩, .pointer none, .pointer none]

/-- append ON A ROW OF THE CALL's OWN, as one step of a region that draws. -/
theorem step_append_own {P : Program} {ops : Array Oper} {o : Oper} {a : Act} {w : World} {K : Act → World → Prop} {Q : Exit → Act → World → Prop} {E : Prop}
    (hgd : o.guard = none) (s x : Operand) (t : TypeId) (ho : o.op = Op.call { callee := Callee.builtin Builtin.append, args := #[s, x], argTypes := #[t, t] })
    (base : Nat) (e : TypeId) (i : TypeInfo) (z : Value) (size bytes : Nat) (ht : P.underlying t = some (.slice e)) (hi : P.info? e = some i) (hz : i.zero = some z)
    (hsize : i.size = size) (hby : i.bytes = bytes) (hzs : z.cells.size = size) (hsz : 0 < size)
    (v : Value) (n : Nat) (xs : List Value) (hs : a.eval s = v) (hown : w.ownsRow base e size v n xs)
    (ad : Addr) (m c : Nat) (news : List Value) (hx : a.eval x = .slice (some ad) m c) (hl : news.length = m * size) (hnews : ∀ j u, news[j]? = some u → w.cell? (ad.add j) = some u) (h1 : ∀ u ∈ news, u.oneCell' = true)
    (h63 : n + m ≤ maxLen) (hbytes : (n + m) * bytes ≤ 140737488355328) (hbase : base ≤ w.heap.size)
    (h : ∀ v' w', w'.ownsRow base e size v' (n + m) (xs ++ news) → w.grownBy w' v.ownBlock → K (a.put o.dst v') w') :
    if Region.wanted o (yielded ops a.tmps) = true then Oper.wp P o a w K Q else E := by
  have hw : Region.wanted o (yielded ops a.tmps) = true := by simp [Region.wanted, hgd]
  rw [if_pos hw]
  exact wp_append_own w s x t ho base e i z size bytes ht hi hz hsize hby hzs hsz v n xs hs hown ad m c news hx hl hnews h1 h63 hbytes hbase (fun v' w' a b _ => h v' w' a b)


/-- The first n events in the cells of a row. -/
def EvRow (cur : Array Value) (n : Nat) (h : Nat → Int × Int) : Prop := ∀ j, j < n → ∀ c, c < 5 → cur[j * 5 + c]? = (evc (h j))[c]?

/-- The queue at bq holds a slice of n events over block g. -/
def QV (w : World) (bq n : Nat) (h : Nat → Int × Int) (g cap : Nat) : Prop :=
  Blk w bq #[.slice (some ⟨g, 0, none⟩) n cap] 74 ∧ bq < g ∧ ∃ cur, Blk w g cur 66 ∧ cur.size = cap * 5 ∧ n ≤ cap ∧ cap ≤ maxLen ∧ EvRow cur n h

def Q (w : World) (bq n : Nat) (h : Nat → Int × Int) : Prop := (n = 0 ∧ Blk w bq #[.slice none 0 0] 74) ∨ ∃ g cap, QV w bq n h g cap

/-- Whatever is neither an event nor a queue is left alone. -/
def Keeps (w w' : World) : Prop := ∀ b cs t, Blk w b cs t → t ≠ 66 → t ≠ 74 → Blk w' b cs t

def upd (h : Nat → Int × Int) (n : Nat) (k : Int × Int) : Nat → Int × Int := fun j => if j = n then k else h j

theorem Keeps.refl (w : World) : Keeps w w := fun _ _ _ h _ _ => h
theorem Keeps.trans {a b c : World} (h : Keeps a b) (k : Keeps b c) : Keeps a c := fun x cs t hb h1 h2 => k x cs t (h x cs t hb h1 h2) h1 h2

theorem cells_new (w : World) (cs : List Value) (t : TypeId) (j : Nat) (u : Value) (h : cs[j]? = some u) : (w.alloc (.cells cs.toArray t)).cell? ((⟨w.heap.size, 0, none⟩ : Addr).add j) = some u := by
  rw [show (⟨w.heap.size, 0, none⟩ : Addr).add j = ⟨w.heap.size, 0 + j, none⟩ from by unfold Addr.add; by_cases e : j = 0 <;> simp [e]]
  have := (Blk.new w cs.toArray t).cell (0 + j)
  rw [this]; simpa using h

theorem q_owns {w : World} {bq n : Nat} {h : Nat → Int × Int} (hq : Q w bq n h) :
    ∃ ao cap xs, Blk w bq #[.slice ao n cap] 74 ∧ w.ownsRow (bq + 1) 66 5 (.slice ao n cap) n xs ∧ (∀ j, j < n → ∀ c, c < 5 → xs[j * 5 + c]? = (evc (h j))[c]?) ∧
      (∀ g, (Value.slice ao n cap).ownBlock = some g → bq < g ∧ ∃ cur, Blk w g cur 66) := by
  rcases hq with ⟨rfl, hb⟩ | ⟨g, cap, hb, hg, cur, hc, hs, hn, hm, hr⟩
  · exact ⟨none, 0, [], hb, World.ownsRow_nil _ _ _ _, fun j hj => absurd hj (Nat.not_lt_zero _), fun g hg => by simp [Value.ownBlock] at hg⟩
  · refine ⟨_, cap, cur.toList.take (n * 5), hb, ⟨?_, .inr ⟨g, cap, cur, rfl, by omega, hc, hn, hm, hs, rfl⟩⟩, ?_, ?_⟩
    · rw [List.length_take, Array.length_toList, hs]; omega
    · intro j hj c hc5
      rw [List.getElem?_take, if_pos (by omega)]
      have := hr j hj c hc5
      simpa using this
    · intro g' hg'
      simp [Value.ownBlock] at hg'
      subst hg'
      exact ⟨hg, cur, hc⟩

theorem after_append {w w1 : World} {bq n : Nat} {h : Nat → Int × Int} {ao : Option Addr} {cap : Nat} {xs : List Value} {k : Int × Int} {o1 o2 : Obj} {v' : Value}
    (hb : Blk w bq #[.slice ao n cap] 74) (hx : ∀ j, j < n → ∀ c, c < 5 → xs[j * 5 + c]? = (evc (h j))[c]?) (hlen : xs.length = n * 5)
    (hg : ∀ g, (Value.slice ao n cap).ownBlock = some g → bq < g ∧ ∃ cur, Blk w g cur 66)
    (hown : w1.ownsRow (bq + 1) 66 5 v' (n + 1) (xs ++ evc k)) (hgr : (((w.alloc o1).alloc o2).drew).grownBy w1 (Value.slice ao n cap).ownBlock) :
    ∃ g cap', v' = .slice (some ⟨g, 0, none⟩) (n + 1) cap' ∧ QV (w1.setCell ⟨bq, 0, none⟩ v') bq (n + 1) (upd h n k) g cap' ∧ Below bq w (w1.setCell ⟨bq, 0, none⟩ v') ∧ Keeps w (w1.setCell ⟨bq, 0, none⟩ v') ∧
      w1.cell? ⟨bq, 0, none⟩ = some (.slice ao n cap) ∧ w1.frozen? ⟨bq, 0, none⟩ = false := by
  have hne : some bq ≠ (Value.slice ao n cap).ownBlock := by
    intro e
    obtain ⟨_, cur, hc⟩ := hg bq e.symm
    unfold Blk at hb hc
    rw [hb] at hc
    simp at hc
  have hlt := hb.lt
  have hkeep : ∀ b cs t, Blk w b cs t → some b ≠ (Value.slice ao n cap).ownBlock → Blk w1 b cs t := by
    intro b cs t hbk hn'
    have hl := hbk.lt
    have h2 : Blk (((w.alloc o1).alloc o2).drew) b cs t := (hbk.alloc o1).alloc o2
    unfold Blk at h2 ⊢
    rw [hgr.block b (by have := h2; exact Blk.lt (w := ((w.alloc o1).alloc o2).drew) this) hn']
    exact h2
  have hb1 := hkeep bq _ _ hb hne
  obtain ⟨hl, (⟨_, h0⟩ | ⟨g, cap', cur, rfl, hgb, hcur, hnc, hcm, hsz, htk⟩)⟩ := hown
  · omega
  · refine ⟨g, cap', rfl, ⟨?_, by omega, cur, ?_, hsz, hnc, hcm, ?_⟩, ?_, ?_, hb1.cellOf rfl, hb1.free 0⟩
    · exact hb1.set 0 _
    · exact Blk.setOther (w := w1) hcur bq 0 _ (by omega)
    · intro j hj c hc
      have e1 : cur[j * 5 + c]? = (cur.toList.take ((n + 1) * 5))[j * 5 + c]? := by
        rw [List.getElem?_take, if_pos (by omega)]; simp
      rw [e1, htk]
      by_cases ej : j = n
      · subst ej
        rw [List.getElem?_append_right (by omega), hlen]
        simp [upd]
      · rw [List.getElem?_append_left (by omega), hx j (by omega) c hc]
        simp [upd, ej]
    · exact Below.setCell (p := ⟨bq, 0, none⟩) (Below.grown (((Below.refl bq w).alloc (by omega) o1).alloc (by simp; omega) o2).drew hgr (by simp; omega) (fun k hk => by have := (hg k hk).1; omega)) (Nat.le_refl _) _
    · intro b cs t hbk h66 h74
      have hnb : some b ≠ (Value.slice ao n cap).ownBlock := by
        intro e
        obtain ⟨_, cur, hc⟩ := hg b e.symm
        unfold Blk at hbk hc
        rw [hbk] at hc
        simp at hc
        exact h66 hc.2
      refine (hkeep b cs t hbk hnb).setOther bq 0 _ ?_
      intro e
      subst e
      unfold Blk at hb hbk
      rw [hb] at hbk
      simp at hbk
      exact h74 hbk.2.symm
end Go.Proofs.Qxb6612683a
