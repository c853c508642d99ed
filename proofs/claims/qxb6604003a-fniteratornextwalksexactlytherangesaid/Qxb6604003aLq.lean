import Derived.Test.Qxb6604003aWr
import Derived.Test.Qxb6604003aIn
set_option linter.unusedVariables false
namespace Go.Proofs.Qxb6604003a
open Go.RowKit

theorem Adj.asc {kb : Nat → List UInt8} {n : Nat} (h : Adj kb n) : AscB kb n := by
  have : ∀ d i, i + d + 1 < n → cmpB (kb i) (kb (i + d + 1)) < 0 := by
    intro d
    induction d with
    | zero => intro i hi; exact h i hi
    | succ d ih => intro i hi; exact cmp_trans (ih i (by omega)) (h (i + d + 1) (by omega))
  intro i j hij hj
  have := this (j - i - 1) i (by omega)
  rwa [show i + (j - i - 1) + 1 = j by omega] at this

theorem asc_pos {kb : Nat → List UInt8} {n : Nat} (h : AscB kb n) : ∀ i, 0 < i → i < n → 0 < (kb i).length := fun i h0 hi => by
  have := h 0 i h0 hi
  rcases Nat.eq_zero_or_pos (kb i).length with e | e
  · have e2 : kb i = [] := by simpa using e
    rw [e2] at this
    cases hk : kb 0 with
    | nil => rw [hk, cmp_nil_nil] at this; omega
    | cons a b => rw [hk, cmp_cons_nil] at this; omega
  · exact e

theorem LoP.eq {kb : Nat → List UInt8} {n : Nat} {lo : List UInt8} {p q : Nat} (hp : LoP kb n lo p) (hq : LoP kb n lo q) : p = q := by
  rcases Nat.lt_trichotomy p q with h | h | h
  · exact absurd (hq.2.1 p h) (hp.2.2 p (Nat.le_refl _) (by have := hq.1; omega))
  · exact h
  · exact absurd (hp.2.1 q h) (hq.2.2 q (Nat.le_refl _) (by have := hp.1; omega))

/-- The end of a range is the first key that is not below it. -/
theorem HiP.lo {kb : Nat → List UInt8} {n p q : Nat} {lo es : List UInt8} (ha : AscB kb n) (h : HiP kb n (some es) p q) (hp : LoP kb n lo p) (hle : cmpB lo es ≤ 0) : LoP kb n es q := by
  refine ⟨h.2.1, fun i hi => ?_, fun i h1 h2 => ?_⟩
  · by_cases e : i < p
    · exact cmp_lt_le (hp.2.1 i e) hle
    · have := h.2.2.1 i (by omega) hi
      simpa [ltE] using this
  · have := h.2.2.2 (by omega)
    have h3 : ¬cmpB (kb q) es < 0 := by simpa [ltE] using this
    exact ha.above h3 i h1 h2

theorem HiP.none_eq {kb : Nat → List UInt8} {n p q : Nat} (h : HiP kb n none p q) : q = n := by
  rcases Nat.lt_or_ge q n with h1 | h1
  · have := h.2.2.2 h1; simp [ltE] at this
  · have := h.2.1; omega

theorem range_cat {kb : Nat → List UInt8} {n p1 q1 p2 q2 p3 q3 : Nat} {lo mid : List UInt8} {eb : Option (List UInt8)} (ha : AscB kb n) (l1 : LoP kb n lo p1) (h1 : HiP kb n (some mid) p1 q1) (l2 : LoP kb n mid p2) (h2 : HiP kb n eb p2 q2) (l3 : LoP kb n lo p3) (h3 : HiP kb n eb p3 q3)
    (hlm : cmpB lo mid ≤ 0) (hme : ∀ es, eb = some es → cmpB mid es ≤ 0) : p3 = p1 ∧ q1 = p2 ∧ q3 = q2 := by
  refine ⟨l3.eq l1, (h1.lo ha l1 hlm).eq l2, ?_⟩
  cases eb with
  | none => rw [h3.none_eq, h2.none_eq]
  | some es =>
    have hm := hme es rfl
    exact (h3.lo ha l3 (cmp_le_le hlm hm)).eq (h2.lo ha l2 hm)

theorem EV.below {w w' : World} {v : Value} {eb : Option (List UInt8)} (h : EV w v eb) (hb : Below w.heap.size w w') : EV w' v eb := by
  cases eb with
  | none => exact h
  | some ks => obtain ⟨x, c, b, off, e, hs⟩ := h; exact ⟨x, c, b, off, e, hs.below hb⟩

theorem own_cell {w : World} {base : Nat} {v : Value} {F : Nat → Value} {p k : Nat} (h : w.ownsRow base 39 1 v k (sub F p k)) : ∃ oa cap, v = .slice oa k cap ∧ (0 < k → ∃ g, oa = some ⟨g, 0, none⟩ ∧ ∀ i, i < k → w.cell? ⟨g, i, none⟩ = some (F (p + i))) := by
  obtain ⟨oa, cap, e⟩ := own_form h
  refine ⟨oa, cap, e, fun hp => ?_⟩
  obtain ⟨g, cap', e', _⟩ := h.form hp
  rw [e] at e'
  injection e' with e1 e2 e3
  subst e
  subst e1
  refine ⟨g, rfl, fun i hi => ?_⟩
  rw [h.cellAt i (by omega), sub_at F p k i hi]

end Go.Proofs.Qxb6604003a
