import Derived.Test.Qxb6602514aTbN
set_option linter.unusedVariables false
namespace Go.Proofs.Qxb6602514a.Tb
open Go.RowKit

/-- The model over words: does an earlier x conflict with a later y? -/
def WordC (S0 S1 : Nat → ByteArray) (n : Nat) (tn : Bool) (x y : ByteArray) : Prop :=
  ¬(x = rOp ∧ y = rOp) ∧ ∀ i, i < n → ¬((if tn then S1 i else S0 i) = x ∧ (if tn then S0 i else S1 i) = y)

/-- A word's kind: its own, or the write kind. -/
def kOf (f : ByteArray → Option Int) (x : ByteArray) : Nat := ((f x).getD 1).toNat

theorem kOf_zero {W : Nat → ByteArray} {k c : Nat} {f : ByteArray → Option Int} (h : KInv W k f c) (x : ByteArray) : kOf f x = 0 ↔ x = rOp := by
  unfold kOf
  constructor
  · intro e
    cases hx : f x with
    | none => simp [hx] at e
    | some v =>
      have := h.rng x v hx
      simp [hx] at e
      have : v = 0 := by omega
      subst this
      exact h.inj _ _ _ hx h.r
  · rintro rfl
    simp [h.r]

theorem kOf_lt {W : Nat → ByteArray} {k c : Nat} {f : ByteArray → Option Int} (h : KInv W k f c) (x : ByteArray) : kOf f x < c := by
  have := h.lo
  unfold kOf
  cases hx : f x with
  | none => simp; omega
  | some v => have := h.rng x v hx; simp; omega

theorem kOf_eq {W : Nat → ByteArray} {k c : Nat} {f : ByteArray → Option Int} (h : KInv W k f c) (x : ByteArray) (j : Nat) (hj : j < k) : (f (W j)).getD 0 = (kOf f x : Int) ↔ W j = x := by
  have hm := h.mem j hj
  unfold kOf
  cases hw : f (W j) with
  | none => simp [hw] at hm
  | some u =>
    have h1 := h.rng _ u hw
    constructor
    · intro e
      cases hx : f x with
      | none => simp [hx] at e; omega
      | some v =>
        have h2 := h.rng x v hx
        simp [hx] at e
        have : u = v := by omega
        subst this
        exact h.inj _ _ _ hw hx
    · rintro rfl
      simp [hw]
      omega

theorem conf_plain (S0 S1 : Nat → ByteArray) (n : Nat) (tn : Bool) (x y : ByteArray) :
    cfl (swp (kx S0 S1 n tn) (ky S0 S1 n tn) n) (kOf (kst S0 S1 (2 * n)).1 x) (kOf (kst S0 S1 (2 * n)).1 y) = true ↔ WordC S0 S1 n tn x y := by
  have hI := kst_inv S0 S1 (2 * n)
  unfold WordC cfl
  rw [Bool.and_eq_true, Bool.not_eq_true', Bool.or_eq_true, bne_iff_ne, bne_iff_ne, ← Bool.not_eq_true, swp_iff]
  have e0 := kOf_zero hI x
  have e1 := kOf_zero hI y
  have e2 : (kOf (kst S0 S1 (2 * n)).1 x ≠ 0 ∨ kOf (kst S0 S1 (2 * n)).1 y ≠ 0) ↔ ¬(x = rOp ∧ y = rOp) := by
    rw [← e0, ← e1]; omega
  rw [e2]
  refine and_congr Iff.rfl ?_
  have k1 : ∀ i z, i < n → (kx S0 S1 n tn i = (kOf (kst S0 S1 (2 * n)).1 z : Int) ↔ (if tn then S1 i else S0 i) = z) := fun i z hi => by
    unfold kx
    cases tn with
    | false => have := kOf_eq hI z (2 * i) (by omega); rw [wrd_even] at this; simpa using this
    | true => have := kOf_eq hI z (2 * i + 1) (by omega); rw [wrd_odd] at this; simpa using this
  have k2 : ∀ i z, i < n → (ky S0 S1 n tn i = (kOf (kst S0 S1 (2 * n)).1 z : Int) ↔ (if tn then S0 i else S1 i) = z) := fun i z hi => by
    unfold ky
    cases tn with
    | true => have := kOf_eq hI z (2 * i) (by omega); rw [wrd_even] at this; simpa using this
    | false => have := kOf_eq hI z (2 * i + 1) (by omega); rw [wrd_odd] at this; simpa using this
  constructor
  · intro h i hi hh
    exact h ⟨i, hi, (k1 i x hi).2 hh.1, (k2 i y hi).2 hh.2⟩
  · rintro h ⟨i, hi, p1, p2⟩
    exact h i hi ⟨(k1 i x hi).1 p1, (k2 i y hi).1 p2⟩

end Go.Proofs.Qxb6602514a.Tb
