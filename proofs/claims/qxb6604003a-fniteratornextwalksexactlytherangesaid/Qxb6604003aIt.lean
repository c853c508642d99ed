import Derived.Test.Qxb6604003aPt
import Derived.Test.Qxb6604003aBd
set_option linter.unusedVariables false
namespace Go.Proofs.Qxb6604003a
open Go.RowKit

/-- An iterator in memory: its stack's cells are st. -/
structure IS (w : World) (base IT : Nat) (sv ev cv : Value) (st : List Value) : Prop where
  row : Row w IT 76 [sv, ev, cv]
  own : w.ownsRow base 78 2 sv (st.length / 2) st
  ne : sv.ownBlock ≠ some IT
  lo : base ≤ IT

/-- .. in the midst of a call that began at w. -/
structure NI (w1 w wr : World) (base IT : Nat) (sv0 sv ev cv : Value) (st : List Value) : Prop where
  is : IS wr base IT sv ev cv st
  tch : Tch w wr fun k => k = IT ∨ sv0.ownBlock = some k ∨ w.heap.size ≤ k
  blk : ∀ g, sv.ownBlock = some g → sv0.ownBlock = some g ∨ w.heap.size ≤ g
  bel : Below base w1 wr

theorem NI.start {w1 w : World} {base IT : Nat} {sv ev cv : Value} {st : List Value} (h : IS w base IT sv ev cv st) (hb : Below base w1 w) : NI w1 w w base IT sv sv ev cv st := ⟨h, Tch.refl _ _, fun g hg => .inl hg, hb⟩

section
variable {w1 w wr : World} {base IT : Nat} {sv0 sv ev cv : Value} {st : List Value}

theorem NI.step (h : NI w1 w wr base IT sv0 sv ev cv st) {wx : World} {sv' cv' : Value} {st' : List Value} (hi : IS wx base IT sv' ev cv' st') (t : Tch wr wx fun k => k = IT ∨ sv.ownBlock = some k ∨ wr.heap.size ≤ k) (hbl : ∀ g, sv'.ownBlock = some g → sv.ownBlock = some g ∨ wr.heap.size ≤ g) (hbase : base ≤ wr.heap.size) : NI w1 w wx base IT sv0 sv' ev cv' st' := by
  have hsz := h.tch.size
  refine ⟨hi, h.tch.trans (t.mono fun k hk => ?_), fun g hg => ?_, t.bel h.bel hbase fun k hk => ?_⟩
  · rcases hk with rfl | hk | hk
    · exact .inl rfl
    · exact .inr (h.blk k hk)
    · exact .inr (.inr (by omega))
  · rcases hbl g hg with h1 | h1
    · exact h.blk g h1
    · exact .inr (by omega)
  · rcases hk with rfl | hk | hk
    · exact h.is.lo
    · exact (h.is.own.lt k hk).1
    · omega

theorem NI.drewN (h : NI w1 w wr base IT sv0 sv ev cv st) (n : Nat) : NI w1 w (wr.drewN n) base IT sv0 sv ev cv st :=
  ⟨⟨h.is.row, h.is.own, h.is.ne, h.is.lo⟩, h.tch.trans ⟨rfl, rfl, rfl, Nat.le_refl _, fun _ _ _ => rfl⟩, h.blk, below_drewN h.bel n⟩
theorem NI.belowN (h : NI w1 w wr base IT sv0 sv ev cv st) {wx : World} (hb : Below wr.heap.size wr wx) (hbase : base ≤ wr.heap.size) : NI w1 w wx base IT sv0 sv ev cv st :=
  h.step ⟨h.is.row.below hb h.is.row.lt, (tch_below hb fun _ => False).own h.is.own fun _ _ => id, h.is.ne, h.is.lo⟩ (tch_below hb _) (fun g hg => .inl hg) hbase

theorem NI.setTop {sg m cap : Nat} (h : NI w1 w wr base IT sv0 (.slice (some ⟨sg, 0, none⟩) m cap) ev cv st) (hm : m = st.length / 2) (hbase : base ≤ wr.heap.size) (j : Nat) (v : Value) : NI w1 w (wr.setCell ⟨sg, j, none⟩ v) base IT sv0 (.slice (some ⟨sg, 0, none⟩) m cap) ev cv (st.set j v) := by
  have hne : IT ≠ sg := fun e => h.is.ne (by rw [e]; rfl)
  have ho := h.is.own
  rw [← hm] at ho
  refine h.step ⟨h.is.row.set_ne hne v, ?_, h.is.ne, h.is.lo⟩ (tch_set wr _ v (.inr (.inl rfl))) (fun g hg => .inl hg) hbase
  rw [List.length_set, ← hm]
  exact (ho.stored j v).1

theorem NI.cut {sg m cap : Nat} (h : NI w1 w wr base IT sv0 (.slice (some ⟨sg, 0, none⟩) m cap) ev cv st) (hm : m = st.length / 2) (he : st.length = m * 2) (hbase : base ≤ wr.heap.size) (k : Nat) (hk : k ≤ m) : NI w1 w (wr.setCell ⟨IT, 0, none⟩ (.slice (some ⟨sg, 0, none⟩) k cap)) base IT sv0 (.slice (some ⟨sg, 0, none⟩) k cap) ev cv (st.take (k * 2)) := by
  have ho := h.is.own
  rw [← hm] at ho
  have hne : IT ≠ sg := fun e => h.is.ne (by rw [e]; rfl)
  refine h.step ⟨h.is.row.set 0 _, ?_, h.is.ne, h.is.lo⟩ (tch_set wr _ _ (.inl rfl)) (fun g hg => .inl hg) hbase
  rw [List.length_take, he, show min (k * 2) (m * 2) / 2 = k by omega]
  exact (tch_set wr ⟨IT, 0, none⟩ _ (S := fun k => k = IT) rfl).own (own_take ho k hk) fun g hg e => h.is.ne (by rw [← e]; exact hg)

theorem NI.setCur (h : NI w1 w wr base IT sv0 sv ev cv st) (hbase : base ≤ wr.heap.size) (v : Value) : NI w1 w (wr.setCell ⟨IT, 2, none⟩ v) base IT sv0 sv ev v st :=
  h.step ⟨h.is.row.set 2 v, (tch_set wr ⟨IT, 2, none⟩ _ (S := fun k => k = IT) rfl).own h.is.own fun g hg e => h.is.ne (by rw [← e]; exact hg), h.is.ne, h.is.lo⟩ (tch_set wr _ _ (.inl rfl)) (fun g hg => .inl hg) hbase

theorem NI.reset (h : NI w1 w wr base IT sv0 sv ev cv st) (hbase : base ≤ wr.heap.size) : NI w1 w ((wr.setCell ⟨IT, 0, none⟩ (.slice none 0 0)).setCell ⟨IT, 2, none⟩ (.pointer none)) base IT sv0 (.slice none 0 0) ev (.pointer none) [] := by
  refine h.step ⟨(h.is.row.set 0 _).set 2 _, World.ownsRow_nil _ _ _ _, by simp [Value.ownBlock], h.is.lo⟩ ((tch_set wr ⟨IT, 0, none⟩ _ (.inl rfl)).trans ((tch_set _ ⟨IT, 2, none⟩ _ (.inl rfl)))) (fun g hg => by simp [Value.ownBlock] at hg) hbase

theorem NI.push (h : NI w1 w wr base IT sv0 sv ev cv st) (hbase : base ≤ wr.heap.size) {o : Obj} {w5 : World} {g n' cap' : Nat} {a b : Value} (hg : (wr.alloc o).grownBy w5 sv.ownBlock) (hown : w5.ownsRow base 78 2 (.slice (some ⟨g, 0, none⟩) n' cap') n' (st ++ [a, b])) (hn : n' = (st ++ [a, b]).length / 2) (hat : sv.ownBlock = some g ∨ wr.heap.size < g) :
    Row w5 IT 76 [sv, ev, cv] ∧ NI w1 w (w5.setCell ⟨IT, 0, none⟩ (.slice (some ⟨g, 0, none⟩) n' cap')) base IT sv0 (.slice (some ⟨g, 0, none⟩) n' cap') ev cv (st ++ [a, b]) := by
  have hr5 : Row w5 IT 76 [sv, ev, cv] := Row.grown (h.is.row.alloc o) hg (fun e => h.is.ne e.symm)
  have hne : g ≠ IT := fun e => by
    rcases hat with h1 | h1
    · exact h.is.ne (by rw [h1, e])
    · have := h.is.row.lt; omega
  refine ⟨hr5, h.step ⟨hr5.set 0 _, ?_, by simp [Value.ownBlock]; exact hne, h.is.lo⟩ (((tch_alloc wr o _).trans (tch_grown hg fun k hk => .inr (.inl hk))).trans (tch_set w5 _ _ (.inl rfl))) (fun g' hg' => ?_) hbase⟩
  · rw [← hn]
    exact (tch_set w5 ⟨IT, 0, none⟩ _ (S := fun k => k = IT) rfl).own hown fun g' hg' e => hne ((show g = g' by simpa [Value.ownBlock] using hg').trans e)
  · have : g = g' := by simpa [Value.ownBlock] using hg'
    subst this
    rcases hat with h1 | h1
    · exact .inl h1
    · exact .inr (by omega)

end

theorem info78 : (Try.prog.info? 78).map (fun i => (i.zero, i.size, i.bytes)) = some (some (.agg #[.pointer none, .int .i64 0]), 2, 16) := by kernel_rfl

/-- The end of the range. -/
def EV (w : World) (v : Value) : Option (List UInt8) → Prop
  | none => v = .slice none 0 0
  | some ks => ∃ x c b off, v = .slice (some x) ks.length c ∧ Bs w (some x) c b off ks

/-- Does key ks lie below the end? -/
def ltE (ks : List UInt8) : Option (List UInt8) → Bool
  | none => true
  | some es => decide (cmpB ks es < 0)

end Go.Proofs.Qxb6604003a
