/-
  A FAMILY OF SLICES, each in memory of the call's own, no two in one block: told apart by a colour that each block bears.
-/
import Derived.Test.Qxb6602514aZZ
import Derived.Test.Qxb6602514aPlan
set_option linter.unusedVariables false
namespace Go.Proofs.Qxb6602514a
open Go.RowKit

abbrev Tag := Nat × Nat × Nat
abbrev FV := Tag → Value × TypeId × List Value

def Fam (w : World) (base : Nat) (V : FV) : Prop :=
  ∃ own : Nat → Tag, ∀ c, w.ownsRow base (V c).2.1 1 (V c).1 (V c).2.2.length (V c).2.2 ∧ ∀ g, (V c).1.ownBlock = some g → own g = c

def upd (V : FV) (c : Tag) (x : Value × TypeId × List Value) : FV := fun c' => if c' = c then x else V c'
theorem upd_same (V : FV) (c : Tag) (x : Value × TypeId × List Value) : upd V c x c = x := by simp [upd]
theorem upd_ne (V : FV) (c c' : Tag) (x : Value × TypeId × List Value) (h : c' ≠ c) : upd V c x c' = V c' := by simp [upd, h]

theorem Fam.own {w : World} {base : Nat} {V : FV} (h : Fam w base V) (c : Tag) : w.ownsRow base (V c).2.1 1 (V c).1 (V c).2.2.length (V c).2.2 := by
  obtain ⟨own, h⟩ := h; exact (h c).1
theorem Fam.nils (w : World) (base : Nat) (V : FV) (h : ∀ c, (V c).1 = .slice none 0 0 ∧ (V c).2.2 = []) : Fam w base V :=
  ⟨fun _ => (0, 0, 0), fun c => ⟨by rw [(h c).1, (h c).2]; exact World.ownsRow_nil _ _ _ _, fun g hg => by rw [(h c).1] at hg; simp [Value.ownBlock] at hg⟩⟩
theorem Fam.alloc {w : World} {base : Nat} {V : FV} (h : Fam w base V) (o : Obj) : Fam (w.alloc o) base V := by
  obtain ⟨own, h⟩ := h; exact ⟨own, fun c => ⟨(h c).1.alloc o, (h c).2⟩⟩
theorem Fam.drew {w : World} {base : Nat} {V : FV} (h : Fam w base V) : Fam w.drew base V := by
  obtain ⟨own, h⟩ := h; exact ⟨own, fun c => ⟨(h c).1, (h c).2⟩⟩
theorem Fam.below {w : World} {base : Nat} {V : FV} (h : Fam w base V) {a : Addr} (ha : a.block < base) (v : Value) : Fam (w.setCell a v) base V := by
  obtain ⟨own, h⟩ := h; exact ⟨own, fun c => ⟨ownsRow_setCell_below (h c).1 ha v, (h c).2⟩⟩
theorem Fam.blk {w : World} {base : Nat} {V : FV} (h : Fam w base V) (c : Tag) : ∀ g, (V c).1.ownBlock = some g → base ≤ g ∧ g < w.heap.size := (h.own c).lt

/-- One of them is appended to. -/
theorem Fam.update {w w1 : World} {base : Nat} {V : FV} (h : Fam w base V) (c : Tag) {v' : Value} {e : TypeId} {cells : List Value} {gg : Nat} (hgrow : w.grownBy w1 (V c).1.ownBlock)
    (hown : w1.ownsRow base e 1 v' cells.length cells) (hv' : v'.ownBlock = some gg) (hat : (V c).1.ownBlock = some gg ∨ w.heap.size ≤ gg) : Fam w1 base (upd V c (v', e, cells)) := by
  obtain ⟨own, h⟩ := h
  refine ⟨fun g => if g = gg then c else own g, fun c' => ?_⟩
  by_cases hc : c' = c
  · subst hc
    rw [upd_same]
    refine ⟨hown, fun g hg => ?_⟩
    rw [hv'] at hg
    simp at hg
    simp [hg]
  · rw [upd_ne _ _ _ _ hc]
    refine ⟨(h c').1.kept hgrow ?_, fun g hg => ?_⟩
    · cases e1 : (V c').1.ownBlock with
      | none => exact .inl rfl
      | some g =>
        right
        intro e2
        exact hc (((h c').2 g e1).symm.trans ((h c).2 g e2.symm))
    · have hne : g ≠ gg := by
        intro e1
        subst e1
        rcases hat with h1 | h1
        · exact hc (((h c').2 g hg).symm.trans ((h c).2 g h1))
        · have := ((h c').1.lt g hg).2; omega
      simp only [hne, if_false]
      exact (h c').2 g hg

/-- One takes another's place, which was empty. -/
theorem Fam.move {w : World} {base : Nat} {V : FV} (h : Fam w base V) (c c' : Tag) (hne : c ≠ c') (hc' : (V c').1.ownBlock = none) : Fam w base (upd (upd V c' (V c)) c (.slice none 0 0, 3, [])) := by
  obtain ⟨own, h⟩ := h
  refine ⟨fun g => if (V c).1.ownBlock = some g then c' else own g, fun x => ?_⟩
  by_cases hx : x = c
  · subst hx
    rw [upd_same]
    exact ⟨World.ownsRow_nil _ _ _ _, fun g hg => by simp [Value.ownBlock] at hg⟩
  · rw [upd_ne _ _ _ _ hx]
    by_cases hx' : x = c'
    · subst hx'
      rw [upd_same]
      exact ⟨(h c).1, fun g hg => by simp [hg]⟩
    · rw [upd_ne _ _ _ _ hx']
      refine ⟨(h x).1, fun g hg => ?_⟩
      have : ¬ (V c).1.ownBlock = some g := fun e => hx (((h x).2 g hg).symm.trans ((h c).2 g e))
      simp only [this, if_false]
      exact (h x).2 g hg

/-- The two rows. -/
def famRow (V : FV) (k m : Nat) : List Value := (List.range m).map (fun t => (V (k, t, 0)).1)
theorem famRow_len (V : FV) (k m : Nat) : (famRow V k m).length = m := by simp [famRow]
theorem famRow_get (V : FV) (k m t : Nat) (h : t < m) : (famRow V k m)[t]? = some (V (k, t, 0)).1 := by simp [famRow, h]
theorem famRow_set (V : FV) (k m t : Nat) (x : Value × TypeId × List Value) (h : t < m) : (famRow V k m).set t x.1 = famRow (upd V (k, t, 0) x) k m := by
  apply List.ext_getElem?
  intro j
  by_cases hj : j < m
  · rw [famRow_get _ _ _ _ hj, List.getElem?_set]
    by_cases e : t = j
    · subst e; rw [if_pos rfl, if_pos (by rw [famRow_len]; exact hj), upd_same]
    · rw [if_neg e, famRow_get _ _ _ _ hj, upd_ne]
      intro hh; simp at hh; omega
  · rw [List.getElem?_eq_none (by rw [List.length_set, famRow_len]; omega), List.getElem?_eq_none (by rw [famRow_len]; omega)]
theorem famRow_ne (V : FV) (k m : Nat) (c : Tag) (x : Value × TypeId × List Value) (h : c.1 ≠ k) : famRow (upd V c x) k m = famRow V k m := by
  unfold famRow
  apply List.map_congr_left
  intro t _
  rw [upd_ne]
  intro hh; subst hh; exact h rfl

/-! ### What the family holds when the loops of zzAtomic stand at (t, o). -/
section
variable (m : Nat) (us : List Int) (slen : Nat → Nat) (ua : Nat → List Bool)
def lim (t o t' : Nat) : Nat := if t' < t then m else if t' = t then o else 0
structure ZSt (t o : Nat) (V : FV) : Prop where
  c0 : ∀ t', (V (0, t', 0)).2 = (3, (obsL m us slen ua t' (lim m t o t')).map (Value.int .i64))
  c1e : ∀ t', (V (1, t', 0)).2.1 = 29
  c1l : ∀ t', (V (1, t', 0)).2.2.length = (obsL m us slen ua t' (lim m t o t')).length
  c1 : ∀ t' j, j < (obsL m us slen ua t' (lim m t o t')).length → (V (1, t', 0)).2.2[j]? = some (V (2, t', j)).1
  c2 : ∀ t' j, j < (obsL m us slen ua t' (lim m t o t')).length → (V (2, t', j)).2 = (3, (kf m us slen ua t' ((obsL m us slen ua t' (lim m t o t')).getD j 0).toNat).map (Value.int .i64))
  c2n : ∀ t' j, (obsL m us slen ua t' (lim m t o t')).length ≤ j → (V (2, t', j)).1 = .slice none 0 0
  c3 : V (3, 0, 0) = (.slice none 0 0, 3, [])
end
section
variable {m : Nat} {us : List Int} {slen : Nat → Nat} {ua : Nat → List Bool}
theorem ZSt.start (V : FV) (h0 : ∀ c, (V c).1 = .slice none 0 0 ∧ (V c).2.2 = []) (h1 : ∀ c, (V c).2.1 = if c.1 = 1 then 29 else 3) : ZSt m us slen ua 0 0 V := by
  have hl : ∀ t', lim m 0 0 t' = 0 := by
    intro t'; unfold lim
    rw [if_neg (by omega)]
    split <;> rfl
  refine ⟨?_, ?_, ?_, ?_, ?_, ?_, ?_⟩
  · intro t'; rw [hl]; simp only [obsL]; have := h1 (0, t', 0); have h2 := (h0 (0, t', 0)).2; rw [Prod.ext_iff]; exact ⟨by simpa using this, by simpa using h2⟩
  · intro t'; have := h1 (1, t', 0); simpa using this
  · intro t'; rw [hl, (h0 _).2]; rfl
  · intro t' j hj; rw [hl] at hj; simp [obsL] at hj
  · intro t' j hj; rw [hl] at hj; simp [obsL] at hj
  · intro t' j _; exact (h0 _).1
  · have h2 := h0 (3, 0, 0); have h3 := h1 (3, 0, 0); rw [Prod.ext_iff, Prod.ext_iff]; exact ⟨h2.1, by simpa using h3, h2.2⟩
theorem ZSt.next {t : Nat} {V : FV} (h : ZSt m us slen ua t m V) : ZSt m us slen ua (t + 1) 0 V := by
  have hl : ∀ t', lim m (t + 1) 0 t' = lim m t m t' := by
    intro t'; unfold lim
    by_cases h1 : t' < t
    · rw [if_pos h1, if_pos (by omega)]
    · by_cases h2 : t' = t
      · rw [if_pos (by omega), if_neg h1, if_pos h2]
      · rw [if_neg (by omega), if_neg h1, if_neg h2]; split <;> rfl
  exact ⟨by simpa only [hl] using h.c0, h.c1e, by simpa only [hl] using h.c1l, by simpa only [hl] using h.c1, by simpa only [hl] using h.c2, by simpa only [hl] using h.c2n, h.c3⟩
theorem ZSt.skip {t o : Nat} {V : FV} (h : ZSt m us slen ua t o V) (hk : kf m us slen ua t o = []) : ZSt m us slen ua t (o + 1) V := by
  have hl : ∀ t', obsL m us slen ua t' (lim m t (o + 1) t') = obsL m us slen ua t' (lim m t o t') := by
    intro t'; unfold lim
    by_cases h1 : t' < t
    · rw [if_pos h1, if_pos h1]
    · by_cases h2 : t' = t
      · subst h2; rw [if_neg h1, if_neg h1, if_pos rfl, if_pos rfl]; simp only [obsL]; rw [if_pos hk]
      · rw [if_neg h1, if_neg h1, if_neg h2, if_neg h2]
  exact ⟨by simpa only [hl] using h.c0, h.c1e, by simpa only [hl] using h.c1l, by simpa only [hl] using h.c1, by simpa only [hl] using h.c2, by simpa only [hl] using h.c2n, h.c3⟩

/-- An observer comes in: obs[t] and after[t] are appended to, the list in hand goes to its place. -/
theorem ZSt.add {t o : Nat} {V : FV} (h : ZSt m us slen ua t o V) (hk : kf m us slen ua t o ≠ []) {V3 : FV} (v0 v1 kv : Value)
    (hV3 : V3 = upd (upd (upd (upd (upd V (3, 0, 0) (kv, 3, (kf m us slen ua t o).map (Value.int .i64))) (0, t, 0) (v0, 3, (obsL m us slen ua t o).map (Value.int .i64) ++ [.int .i64 o])) (1, t, 0) (v1, 29, (V (1, t, 0)).2.2 ++ [kv]))
      (2, t, (obsL m us slen ua t o).length) (kv, 3, (kf m us slen ua t o).map (Value.int .i64))) (3, 0, 0) (.slice none 0 0, 3, [])) : ZSt m us slen ua t (o + 1) V3 := by
  have hlt : lim m t o t = o := by unfold lim; rw [if_neg (by omega), if_pos rfl]
  have hlt' : lim m t (o + 1) t = o + 1 := by unfold lim; rw [if_neg (by omega), if_pos rfl]
  have hln : ∀ t', t' ≠ t → lim m t (o + 1) t' = lim m t o t' := by
    intro t' ht'; unfold lim
    by_cases h1 : t' < t
    · rw [if_pos h1, if_pos h1]
    · rw [if_neg h1, if_neg h1, if_neg ht', if_neg ht']
  have hob : obsL m us slen ua t (o + 1) = obsL m us slen ua t o ++ [(o : Int)] := by simp only [obsL]; rw [if_neg hk]
  have e0 : ∀ t', t' ≠ t → V3 (0, t', 0) = V (0, t', 0) := by intro t' ht'; rw [hV3]; simp [upd, ht']
  have e1 : ∀ t', t' ≠ t → V3 (1, t', 0) = V (1, t', 0) := by intro t' ht'; rw [hV3]; simp [upd, ht']
  have e2 : ∀ t' j, (t' ≠ t ∨ j ≠ (obsL m us slen ua t o).length) → V3 (2, t', j) = V (2, t', j) := by
    intro t' j ht'; rw [hV3]
    have : ¬ (t' = t ∧ j = (obsL m us slen ua t o).length) := by omega
    simp [upd, this]
  have f0 : V3 (0, t, 0) = (v0, 3, (obsL m us slen ua t o).map (Value.int .i64) ++ [.int .i64 o]) := by rw [hV3]; simp [upd]
  have f1 : V3 (1, t, 0) = (v1, 29, (V (1, t, 0)).2.2 ++ [kv]) := by rw [hV3]; simp [upd]
  have f2 : V3 (2, t, (obsL m us slen ua t o).length) = (kv, 3, (kf m us slen ua t o).map (Value.int .i64)) := by rw [hV3]; simp [upd]
  have hc1l := h.c1l t
  rw [hlt] at hc1l
  refine ⟨?_, ?_, ?_, ?_, ?_, ?_, by rw [hV3]; simp [upd]⟩
  · intro t'
    by_cases e : t' = t
    · subst e; rw [hlt', f0, hob]; simp
    · rw [hln t' e, e0 t' e]; exact h.c0 t'
  · intro t'
    by_cases e : t' = t
    · subst e; rw [f1]
    · rw [e1 t' e]; exact h.c1e t'
  · intro t'
    by_cases e : t' = t
    · subst e; rw [hlt', f1, hob]; simp [hc1l]
    · rw [hln t' e, e1 t' e]; exact h.c1l t'
  · intro t' j hj
    by_cases e : t' = t
    · subst e
      rw [hlt', hob] at hj
      simp at hj
      rw [f1]
      by_cases ej : j = (obsL m us slen ua t' o).length
      · subst ej; rw [f2, ← hc1l]; simp
      · rw [e2 t' j (.inr ej)]
        have := h.c1 t' j (by rw [hlt]; omega)
        show ((V (1, t', 0)).2.2 ++ [kv])[j]? = _
        rw [List.getElem?_append_left (by omega)]; exact this
    · rw [hln t' e] at hj
      rw [e1 t' e, e2 t' j (.inl e)]; exact h.c1 t' j hj
  · intro t' j hj
    by_cases e : t' = t
    · subst e
      rw [hlt', hob] at hj ⊢
      simp at hj
      by_cases ej : j = (obsL m us slen ua t' o).length
      · subst ej; rw [f2]; simp [List.getD]
      · rw [e2 t' j (.inr ej)]
        have := h.c2 t' j (by rw [hlt]; omega)
        rw [hlt] at this
        rw [this, show (obsL m us slen ua t' o ++ [(o : Int)]).getD j 0 = (obsL m us slen ua t' o).getD j 0 by simp [List.getD, List.getElem?_append_left (show j < (obsL m us slen ua t' o).length by omega)]]
    · rw [hln t' e] at hj ⊢
      rw [e2 t' j (.inl e)]; exact h.c2 t' j hj
  · intro t' j hj
    by_cases e : t' = t
    · subst e
      rw [hlt', hob] at hj
      simp at hj
      rw [e2 t' j (.inr (by omega))]
      exact h.c2n t' j (by rw [hlt]; omega)
    · rw [hln t' e] at hj
      rw [e2 t' j (.inl e)]; exact h.c2n t' j hj
end

end Go.Proofs.Qxb6602514a
