import Derived.Test.Qxb6604003aChecked
import Derived.Test.Qxb6604003aMem
import Derived.WalkLawsBesides
import Derived.WalkSpells
import Derived.BigQuiet
import Derived.BigRegion
import Derived.Deep.DeepCutAuto
import Derived.Lib.BytesEntry
set_option linter.unusedVariables false
namespace Go.Proofs.Qxb6604003a
open Go.RowKit

theorem cellOf {w wr : World} {a : Addr} {v : Value} (h : w.cell? a = some v) (hb : Below w.heap.size w wr) : wr.cell? a = some v := (hb.cell (World.block_lt_of_cell? w a h)).trans h
theorem bel_to_drew {B : Nat} {a w : World} (h : Below B a w) : Below B a w.drew := h.trans ⟨rfl, rfl, rfl, Nat.le_refl _, fun _ _ => rfl⟩

/-- A []byte xs a reader sees it. -/
structure Bs (w : World) (a : Option Addr) (c b off : Nat) (ks : List UInt8) : Prop where
  nil : a = none → ks.length = 0 ∧ c = 0
  at' : 0 < ks.length → a = some ⟨b, off, none⟩
  cell : ∀ i, i < ks.length → w.cell? ⟨b, off + i, none⟩ = some (.int .u8 ((ks.getD i 0).toNat : Nat))
  max : ks.length ≤ maxLen

theorem Bs.below {w w' : World} {a : Option Addr} {c b off : Nat} {ks : List UInt8} (h : Bs w a c b off ks) (hb : Below w.heap.size w w') : Bs w' a c b off ks :=
  ⟨h.nil, h.at', fun i hi => cellOf (h.cell i hi) hb, h.max⟩

/-- Go's order of byte strings. -/
def cmpB (a b : List UInt8) : Int := Lib.compareBytes a b

theorem cmp_nil_nil : cmpB [] [] = 0 := rfl
theorem cmp_nil_cons (b : UInt8) (ys : List UInt8) : cmpB [] (b :: ys) = -1 := rfl
theorem cmp_cons_nil (a : UInt8) (xs : List UInt8) : cmpB (a :: xs) [] = 1 := rfl
theorem cmp_cons (a b : UInt8) (xs ys : List UInt8) : cmpB (a :: xs) (b :: ys) = if a < b then -1 else if b < a then 1 else cmpB xs ys := by
  unfold cmpB; rw [Lib.compareBytes]

/-- After i equal bytes. -/
theorem cmp_drop : ∀ (i : Nat) (a b : List UInt8), i ≤ a.length → i ≤ b.length → (∀ j, j < i → a.getD j 0 = b.getD j 0) → cmpB a b = cmpB (a.drop i) (b.drop i)
  | 0, a, b, _, _, _ => rfl
  | i + 1, [], b, h, _, _ => by simp at h
  | i + 1, _ :: _, [], _, h, _ => by simp at h
  | i + 1, x :: a, y :: b, h1, h2, h3 => by
    have e : x = y := by simpa using h3 0 (by omega)
    subst e
    rw [cmp_cons, if_neg (UInt8.lt_irrefl x), if_neg (UInt8.lt_irrefl x)]
    simp only [List.drop_succ_cons]
    refine cmp_drop i a b (by simpa using h1) (by simpa using h2) fun j hj => ?_
    simpa using h3 (j + 1) (by omega)

theorem cmp_ne {i : Nat} {a b : List UInt8} (h1 : i < a.length) (h2 : i < b.length) (h3 : ∀ j, j < i → a.getD j 0 = b.getD j 0) (hne : a.getD i 0 ≠ b.getD i 0) : cmpB a b = if a.getD i 0 < b.getD i 0 then -1 else 1 := by
  rw [cmp_drop i a b (by omega) (by omega) h3, List.drop_eq_getElem_cons h1, List.drop_eq_getElem_cons h2, cmp_cons]
  have e1 : a.getD i 0 = a[i] := by simp [List.getD, h1]
  have e2 : b.getD i 0 = b[i] := by simp [List.getD, h2]
  rw [e1, e2] at hne ⊢
  by_cases h : a[i] < b[i]
  · simp [h]
  · have : b[i] < a[i] := UInt8.lt_of_le_of_ne (UInt8.not_lt.1 h) (Ne.symm hne)
    simp [h, this]

theorem cmp_end {a b : List UInt8} (h3 : ∀ j, j < min a.length b.length → a.getD j 0 = b.getD j 0) : cmpB a b = if a.length < b.length then -1 else if b.length < a.length then 1 else 0 := by
  rw [cmp_drop (min a.length b.length) a b (by omega) (by omega) h3]
  rcases Nat.lt_trichotomy a.length b.length with h | h | h
  · rw [show min a.length b.length = a.length by omega, if_pos h, List.drop_length, List.drop_eq_getElem_cons h, cmp_nil_cons]
  · rw [if_neg (by omega), if_neg (by omega), show min a.length b.length = a.length by omega, List.drop_length, show a.length = b.length from h, List.drop_length, cmp_nil_nil]
  · rw [if_neg (by omega), if_pos h, show min a.length b.length = b.length by omega, List.drop_length, List.drop_eq_getElem_cons h, cmp_cons_nil]

/-! ### The order -/
theorem cmp_self (a : List UInt8) : cmpB a a = 0 := by
  rw [cmp_end fun j _ => rfl]; simp

theorem cmp_eq : ∀ {a b : List UInt8}, cmpB a b = 0 → a = b
  | [], [], _ => rfl
  | [], b :: ys, h => by rw [cmp_nil_cons] at h; omega
  | a :: xs, [], h => by rw [cmp_cons_nil] at h; omega
  | a :: xs, b :: ys, h => by
    rw [cmp_cons] at h
    split at h
    · omega
    · split at h
      · omega
      · have e : a = b := UInt8.le_antisymm (UInt8.not_lt.1 (by assumption)) (UInt8.not_lt.1 (by assumption))
        rw [e, cmp_eq h]

theorem cmp_swap : ∀ (a b : List UInt8), cmpB b a = - cmpB a b
  | [], [] => rfl
  | [], b :: ys => rfl
  | a :: xs, [] => rfl
  | a :: xs, b :: ys => by
    rw [cmp_cons, cmp_cons]
    by_cases h1 : a < b
    · have : ¬ b < a := fun h => UInt8.lt_irrefl _ (UInt8.lt_trans h1 h)
      simp [h1, this]
    · by_cases h2 : b < a
      · simp [h1, h2]
      · simp [h1, h2, cmp_swap xs ys]

theorem cmp_range (a b : List UInt8) : cmpB a b = -1 ∨ cmpB a b = 0 ∨ cmpB a b = 1 := by
  induction a generalizing b with
  | nil =>
    cases b with
    | nil => exact .inr (.inl rfl)
    | cons => exact .inl rfl
  | cons x a ih =>
    cases b with
    | nil => exact .inr (.inr rfl)
    | cons y b =>
      rw [cmp_cons]
      split
      · exact .inl rfl
      · split
        · exact .inr (.inr rfl)
        · exact ih b

theorem cmp_trans : ∀ {a b c : List UInt8}, cmpB a b < 0 → cmpB b c < 0 → cmpB a c < 0
  | _, [], [], _, h => by rw [cmp_nil_nil] at h; omega
  | _, y :: ys, [], _, h => by rw [cmp_cons_nil] at h; omega
  | [], _, z :: zs, _, _ => by rw [cmp_nil_cons]; omega
  | x :: xs, [], z :: zs, h, _ => by rw [cmp_cons_nil] at h; omega
  | x :: xs, y :: ys, z :: zs, h1, h2 => by
    rw [cmp_cons] at h1 h2 ⊢
    by_cases a1 : x < y
    · by_cases a2 : y < z
      · simp [UInt8.lt_trans a1 a2]
      · rw [if_neg a2] at h2
        by_cases a3 : z < y
        · rw [if_pos a3] at h2; omega
        · have e : y = z := UInt8.le_antisymm (UInt8.not_lt.1 a3) (UInt8.not_lt.1 a2)
          subst e
          simp [a1]
    · rw [if_neg a1] at h1
      by_cases a2 : y < x
      · rw [if_pos a2] at h1; omega
      · rw [if_neg a2] at h1
        have e : x = y := UInt8.le_antisymm (UInt8.not_lt.1 a2) (UInt8.not_lt.1 a1)
        subst e
        by_cases a3 : x < z
        · simp [a3]
        · rw [if_neg a3] at h2 ⊢
          by_cases a4 : z < x
          · rw [if_pos a4] at h2; omega
          · rw [if_neg a4] at h2 ⊢
            exact cmp_trans h1 h2

theorem cmp_lt_le {a b c : List UInt8} (h1 : cmpB a b < 0) (h2 : cmpB b c ≤ 0) : cmpB a c < 0 := by
  by_cases h : cmpB b c = 0
  · rw [← cmp_eq h]; exact h1
  · exact cmp_trans h1 (by omega)
theorem cmp_le_lt {a b c : List UInt8} (h1 : cmpB a b ≤ 0) (h2 : cmpB b c < 0) : cmpB a c < 0 := by
  by_cases h : cmpB a b = 0
  · rw [cmp_eq h]; exact h2
  · exact cmp_trans (by omega) h2
theorem cmp_le_le {a b c : List UInt8} (h1 : cmpB a b ≤ 0) (h2 : cmpB b c ≤ 0) : cmpB a c ≤ 0 := by
  by_cases h : cmpB a b = 0
  · rw [cmp_eq h]; exact h2
  · have := cmp_lt_le (a := a) (b := b) (c := c) (by omega) h2; omega

end Go.Proofs.Qxb6604003a
