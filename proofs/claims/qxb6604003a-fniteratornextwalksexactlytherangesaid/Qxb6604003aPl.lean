import Derived.Test.Qxb6604003aTs
set_option linter.unusedVariables false
namespace Go.Proofs.Qxb6604003a
open Go.RowKit

/-! ### Digits to the base 16 -/
def dv (n l : Nat) : Nat := n / 16 ^ l
theorem dv_zero (n : Nat) : dv n 0 = n := by simp [dv]
theorem dv_succ (n l : Nat) : dv n (l + 1) = dv n l / 16 := by unfold dv; rw [Nat.pow_succ, Nat.div_div_eq_div_mul]
/-- The lowest k digits of n are 0. -/
def Full (n k : Nat) : Prop := ∀ l, l < k → dv n l % 16 = 0

theorem Full.less {n k m : Nat} (h : Full n k) (hm : m ≤ k) : Full n m := fun l hl => h l (by omega)
theorem Full.pos {n k : Nat} (h : Full n k) (hn : 0 < n) : 0 < dv n k := by
  induction k with
  | zero => rw [dv_zero]; exact hn
  | succ k ih =>
    have h1 := ih (h.less (by omega))
    have h2 := h k (by omega)
    rw [dv_succ]; omega
theorem Full.pred {n k : Nat} (h : Full n k) (hn : 0 < n) : dv (n - 1) k = dv n k - 1 := by
  induction k with
  | zero => rw [dv_zero, dv_zero]
  | succ k ih =>
    have h1 := ih (h.less (by omega))
    have h2 := h k (by omega)
    have h3 := (h.less (show k ≤ k + 1 by omega)).pos hn
    rw [dv_succ, dv_succ, h1]; omega
theorem Full.mul {n k : Nat} (h : Full n k) : dv n k * 16 ^ k = n := by
  induction k with
  | zero => rw [dv_zero]; simp
  | succ k ih =>
    have h1 := ih (h.less (by omega))
    have h2 := h k (by omega)
    rw [dv_succ, Nat.pow_succ]
    have : dv n k / 16 * (16 ^ k * 16) = (dv n k / 16 * 16) * 16 ^ k := by rw [Nat.mul_comm (16 ^ k) 16, ← Nat.mul_assoc]
    rw [this, show dv n k / 16 * 16 = dv n k by omega]
    exact h1
/-- Above the lowest digit that is not 0, n - 1 has n's digits. -/
theorem Full.above {n k : Nat} (h : Full n k) (hn : 0 < n) (hk : dv n k % 16 ≠ 0) : ∀ l, k < l → dv (n - 1) l = dv n l := by
  intro l hl
  obtain ⟨m, rfl⟩ : ∃ m, l = k + 1 + m := ⟨l - (k + 1), by omega⟩
  clear hl
  induction m with
  | zero =>
    show dv (n - 1) (k + 1) = dv n (k + 1)
    rw [dv_succ, dv_succ, h.pred hn]; omega
  | succ m ih =>
    show dv (n - 1) (k + 1 + m + 1) = dv n (k + 1 + m + 1)
    rw [dv_succ, dv_succ, ih]

theorem dv_lt_of_lt {n h : Nat} (hn : n < 16 ^ h) : dv n h = 0 := Nat.div_eq_of_lt hn
theorem Full.top {n h : Nat} (hf : Full n h) (hn : 0 < n) (hle : n ≤ 16 ^ h) : n = 16 ^ h := by
  have h1 := hf.mul
  have h2 := hf.pos hn
  have h3 : 16 ^ h ≤ dv n h * 16 ^ h := Nat.le_mul_of_pos_left _ h2
  omega
theorem pow_full (h k : Nat) (hk : k < h) : dv (16 ^ h) k % 16 = 0 := by
  unfold dv
  rw [Nat.pow_div (by omega) (by omega), show h - k = h - k - 1 + 1 by omega, Nat.pow_succ]; omega
theorem Full.ne_top {n k h : Nat} (hk : k < h) (hd : dv n k % 16 ≠ 0) (hle : n ≤ 16 ^ h) : n < 16 ^ h := by
  rcases Nat.lt_or_eq_of_le hle with h1 | h1
  · exact h1
  · rw [h1] at hd; exact absurd (pow_full h k hk) hd

/-! ### The cells of a node's slice -/
def its (F G : Nat → Value) (a : Nat) : Nat → List Value
  | 0 => []
  | m + 1 => its F G a m ++ [F (a + m), G (a + m)]

theorem its_len (F G : Nat → Value) (a m : Nat) : (its F G a m).length = 2 * m := by
  induction m with
  | zero => rfl
  | succ m ih => simp [its, ih]; omega
theorem its_at (F G : Nat → Value) (a m i : Nat) (hi : i < m) : (its F G a m)[i * 2]? = some (F (a + i)) ∧ (its F G a m)[i * 2 + 1]? = some (G (a + i)) := by
  induction m with
  | zero => omega
  | succ m ih =>
    have hl := its_len F G a m
    simp only [its]
    by_cases e : i = m
    · subst e
      constructor
      · rw [List.getElem?_append_right (by omega), hl, show i * 2 - 2 * i = 0 by omega]; rfl
      · rw [List.getElem?_append_right (by omega), hl, show i * 2 + 1 - 2 * i = 1 by omega]; rfl
    · have h2 := ih (by omega)
      constructor
      · rw [List.getElem?_append_left (by omega)]; exact h2.1
      · rw [List.getElem?_append_left (by omega)]; exact h2.2
theorem its_congr {F G F' G' : Nat → Value} {a m : Nat} (h : ∀ i, i < m → F (a + i) = F' (a + i) ∧ G (a + i) = G' (a + i)) : its F G a m = its F' G' a m := by
  induction m with
  | zero => rfl
  | succ m ih =>
    simp only [its]
    rw [ih fun i hi => h i (by omega), (h m (by omega)).1, (h m (by omega)).2]

def ptr (b : Nat) : Value := .pointer (some ⟨b, 0, none⟩)

/-- What the tree's nodes hold: c 0 keys; c (l + 1) nodes of level l hang in the tree. -/
structure PT (K V : Nat → Value) (kb : Nat → List UInt8) (d : D) (h : Nat) (c : Nat → Nat) (low : Nat → Nat → Value) : Prop where
  h1 : 1 ≤ h
  nd0 : ∀ l, h ≤ l → d.nd l = 0
  cl : ∀ l, l < h → c (l + 1) ≤ d.nd l
  leaf : ∀ q, q < d.nd 0 → d.it 0 q = its K V (16 * q) (min 16 (c 0 - 16 * q))
  inn : ∀ l q, q < d.nd (l + 1) → d.it (l + 1) q = its (low l) (fun j => ptr (d.adr l j)) (16 * q) (min 16 (c (l + 1) - 16 * q))
  low0 : ∀ l j, j % 16 = 0 → low l j = .slice none 0 0
  lowk : ∀ l j, l + 1 < h → j < c (l + 1) → j % 16 ≠ 0 → (low l j, kb (j * 16 ^ (l + 1))) ∈ d.lows
  some' : ∀ l q, 1 ≤ l → q < c (l + 1) → l < h → ∃ g n cap, d.slv l q = .slice (some ⟨g, 0, none⟩) n cap

variable {K V : Nat → Value} {kb : Nat → List UInt8}

theorem PT.node {d : D} {h : Nat} {c : Nat → Nat} {low : Nat → Nat → Value} (p : PT K V kb d h c low) (l H : Nat) (col' : Nat → Option (Nat × Nat × Nat)) (hl : l < h) (hc : c l ≤ 16 * d.nd l) :
    PT K V kb { d with nd := upd1 d.nd l (d.nd l + 1), adr := upd2 d.adr l (d.nd l) H, slv := upd2 d.slv l (d.nd l) (.slice none 0 0), it := upd2 d.it l (d.nd l) [], col := col' } h c low := by
  have hcase : ∀ l' q', q' < upd1 d.nd l (d.nd l + 1) l' → (l' = l ∧ q' = d.nd l) ∨ (¬(l' = l ∧ q' = d.nd l) ∧ q' < d.nd l') := fun l' q' hq' => by
    by_cases e : l' = l
    · subst e
      rw [upd1_same] at hq'
      by_cases e2 : q' = d.nd l'
      · exact .inl ⟨rfl, e2⟩
      · exact .inr ⟨fun x => e2 x.2, by omega⟩
    · rw [upd1_ne _ _ _ e] at hq'
      exact .inr ⟨fun x => e x.1, hq'⟩
  refine ⟨p.h1, fun l' hl' => ?_, fun l' hl' => ?_, fun q hq => ?_, fun l' q hq => ?_, p.low0, p.lowk, fun l' q h1 h2 h3 => ?_⟩
  · show upd1 d.nd l (d.nd l + 1) l' = 0
    rw [upd1_ne _ _ _ (by omega)]; exact p.nd0 l' hl'
  · show c (l' + 1) ≤ upd1 d.nd l (d.nd l + 1) l'
    have := p.cl l' hl'
    by_cases e : l' = l
    · subst e; rw [upd1_same]; omega
    · rw [upd1_ne _ _ _ e]; exact this
  · show upd2 d.it l (d.nd l) [] 0 q = _
    rcases hcase 0 q hq with ⟨e1, rfl⟩ | ⟨e, hq2⟩
    · subst e1
      rw [upd2_same, show min 16 (c 0 - 16 * d.nd 0) = 0 by omega]; rfl
    · rw [upd2_ne _ _ _ _ e]; exact p.leaf q hq2
  · show upd2 d.it l (d.nd l) [] (l' + 1) q = its (low l') (fun j => ptr (upd2 d.adr l (d.nd l) H l' j)) (16 * q) (min 16 (c (l' + 1) - 16 * q))
    rcases hcase (l' + 1) q hq with ⟨e1, rfl⟩ | ⟨e, hq2⟩
    · subst e1
      rw [upd2_same, show min 16 (c (l' + 1) - 16 * d.nd (l' + 1)) = 0 by omega]; rfl
    · rw [upd2_ne _ _ _ _ e, p.inn l' q hq2]
      refine its_congr fun i hi => ⟨rfl, ?_⟩
      have hlt : l' < h := by
        rcases Nat.lt_or_ge (l' + 1) h with h2 | h2
        · omega
        · rw [p.nd0 (l' + 1) h2] at hq2; omega
      have hcl := p.cl l' hlt
      show ptr (d.adr l' (16 * q + i)) = ptr (upd2 d.adr l (d.nd l) H l' (16 * q + i))
      rw [upd2_ne _ _ _ _ (by rintro ⟨rfl, e2⟩; omega)]
  · show ∃ g n cap, upd2 d.slv l (d.nd l) (.slice none 0 0) l' q = .slice (some ⟨g, 0, none⟩) n cap
    have hcl := p.cl l' h3
    rw [upd2_ne _ _ _ _ (by rintro ⟨rfl, e2⟩; omega)]
    exact p.some' l' q h1 h2 h3

/-- A new node's empty slice. -/
theorem PT.empty {d : D} {h : Nat} {c : Nat → Nat} {low : Nat → Nat → Value} (p : PT K V kb d h c low) (l q g n cap : Nat) (col' : Nat → Option (Nat × Nat × Nat)) (he : d.it l q = []) :
    PT K V kb { d with slv := upd2 d.slv l q (.slice (some ⟨g, 0, none⟩) n cap), it := upd2 d.it l q [], col := col' } h c low := by
  have e : upd2 d.it l q [] = d.it := by
    funext l' q'
    by_cases e : l' = l ∧ q' = q
    · obtain ⟨rfl, rfl⟩ := e; rw [upd2_same, he]
    · rw [upd2_ne _ _ _ _ e]
  rw [e]
  refine ⟨p.h1, p.nd0, p.cl, p.leaf, p.inn, p.low0, p.lowk, fun l' q' h1 h2 h3 => ?_⟩
  show ∃ g' n' cap', upd2 d.slv l q (.slice (some ⟨g, 0, none⟩) n cap) l' q' = .slice (some ⟨g', 0, none⟩) n' cap'
  by_cases e : l' = l ∧ q' = q
  · obtain ⟨rfl, rfl⟩ := e; rw [upd2_same]; exact ⟨g, n, cap, rfl⟩
  · rw [upd2_ne _ _ _ _ e]; exact p.some' l' q' h1 h2 h3

/-- One more key in the last leaf. -/
theorem PT.key {d : D} {h : Nat} {c : Nat → Nat} {low : Nat → Nat → Value} (p : PT K V kb d h c low) (q g n cap : Nat) (col' : Nat → Option (Nat × Nat × Nat)) (hq : d.nd 0 = q + 1) (h1 : 16 * q ≤ c 0) (h2 : c 0 < 16 * q + 16) :
    PT K V kb { d with slv := upd2 d.slv 0 q (.slice (some ⟨g, 0, none⟩) n cap), it := upd2 d.it 0 q (d.it 0 q ++ [K (c 0), V (c 0)]), col := col' } h (upd1 c 0 (c 0 + 1)) low := by
  have hcs : ∀ l, upd1 c 0 (c 0 + 1) (l + 1) = c (l + 1) := fun l => upd1_ne _ _ _ (by omega)
  refine ⟨p.h1, p.nd0, fun l hl => by rw [hcs]; exact p.cl l hl, fun q' hq' => ?_, fun l q' hq' => ?_, p.low0, fun l j a b => p.lowk l j a (by rw [hcs] at b; exact b), fun l' q' a b a3 => ?_⟩
  · show upd2 d.it 0 q (d.it 0 q ++ [K (c 0), V (c 0)]) 0 q' = its K V (16 * q') (min 16 (upd1 c 0 (c 0 + 1) 0 - 16 * q'))
    rw [upd1_same]
    have hq'' : q' < d.nd 0 := hq'
    by_cases e : q' = q
    · subst e
      rw [upd2_same, p.leaf q' hq'', show min 16 (c 0 + 1 - 16 * q') = min 16 (c 0 - 16 * q') + 1 by omega]
      simp only [its]
      rw [show 16 * q' + min 16 (c 0 - 16 * q') = c 0 by omega]
    · rw [upd2_ne _ _ _ _ (by rintro ⟨_, e2⟩; exact e e2), p.leaf q' hq'', show min 16 (c 0 + 1 - 16 * q') = min 16 (c 0 - 16 * q') by omega]
  · show upd2 d.it 0 q (d.it 0 q ++ [K (c 0), V (c 0)]) (l + 1) q' = _
    rw [upd2_ne _ _ _ _ (by rintro ⟨e, _⟩; omega), hcs]
    exact p.inn l q' hq'
  · show ∃ g' n' cap', upd2 d.slv 0 q (.slice (some ⟨g, 0, none⟩) n cap) l' q' = .slice (some ⟨g', 0, none⟩) n' cap'
    rw [hcs] at b
    rw [upd2_ne _ _ _ _ (by rintro ⟨e, _⟩; omega)]
    exact p.some' l' q' a b a3

/-- One more child in the last node of level l + 1. -/
theorem PT.child {d : D} {h : Nat} {c : Nat → Nat} {low : Nat → Nat → Value} (p : PT K V kb d h c low) (l q g n cap : Nat) (lv : Value) (col' : Nat → Option (Nat × Nat × Nat)) (hl : l + 1 < h) (hq : d.nd (l + 1) = q + 1) (h1 : 16 * q ≤ c (l + 1)) (h2 : c (l + 1) < 16 * q + 16)
    (hn : c (l + 1) < d.nd l) (hs : 1 ≤ l → ∃ g' n' cap', d.slv l (c (l + 1)) = .slice (some ⟨g', 0, none⟩) n' cap')
    (hl0 : c (l + 1) % 16 = 0 → lv = .slice none 0 0) (hlk : c (l + 1) % 16 ≠ 0 → (lv, kb (c (l + 1) * 16 ^ (l + 1))) ∈ d.lows) :
    PT K V kb { d with slv := upd2 d.slv (l + 1) q (.slice (some ⟨g, 0, none⟩) n cap), it := upd2 d.it (l + 1) q (d.it (l + 1) q ++ [lv, ptr (d.adr l (c (l + 1)))]), col := col' } h (upd1 c (l + 1) (c (l + 1) + 1)) (upd2 low l (c (l + 1)) lv) := by
  have hcs : ∀ l', l' ≠ l + 1 → upd1 c (l + 1) (c (l + 1) + 1) l' = c l' := fun l' e => upd1_ne _ _ _ e
  refine ⟨p.h1, p.nd0, fun l' hl' => ?_, fun q' hq' => ?_, fun l' q' hq' => ?_, fun l' j hj => ?_, fun l' j a b e => ?_, fun l' q' a b a3 => ?_⟩
  · by_cases e : l' = l
    · subst e; rw [upd1_same]; exact hn
    · rw [hcs _ (by omega)]; exact p.cl l' hl'
  · show upd2 d.it (l + 1) q (d.it (l + 1) q ++ [lv, ptr (d.adr l (c (l + 1)))]) 0 q' = _
    rw [upd2_ne _ _ _ _ (by rintro ⟨e, _⟩; omega), hcs _ (by omega)]
    exact p.leaf q' hq'
  · have hq'' : q' < d.nd (l' + 1) := hq'
    show upd2 d.it (l + 1) q (d.it (l + 1) q ++ [lv, ptr (d.adr l (c (l + 1)))]) (l' + 1) q' = its (upd2 low l (c (l + 1)) lv l') (fun j => ptr (d.adr l' j)) (16 * q') (min 16 (upd1 c (l + 1) (c (l + 1) + 1) (l' + 1) - 16 * q'))
    by_cases e : l' = l
    · subst e
      rw [upd1_same]
      by_cases e2 : q' = q
      · subst e2
        rw [upd2_same, p.inn l' q' hq'', show min 16 (c (l' + 1) + 1 - 16 * q') = min 16 (c (l' + 1) - 16 * q') + 1 by omega]
        simp only [its]
        rw [show 16 * q' + min 16 (c (l' + 1) - 16 * q') = c (l' + 1) by omega, upd2_same]
        congr 1
        refine its_congr fun i hi => ⟨?_, rfl⟩
        rw [upd2_ne _ _ _ _ (by rintro ⟨_, e3⟩; omega)]
      · rw [upd2_ne _ _ _ _ (by rintro ⟨_, e3⟩; exact e2 e3), p.inn l' q' hq'', show min 16 (c (l' + 1) + 1 - 16 * q') = min 16 (c (l' + 1) - 16 * q') by omega]
        refine its_congr fun i hi => ⟨?_, rfl⟩
        rw [upd2_ne _ _ _ _ (by rintro ⟨_, e3⟩; omega)]
    · rw [upd2_ne _ _ _ _ (by rintro ⟨e3, _⟩; omega), hcs _ (by omega), p.inn l' q' hq'']
      refine its_congr fun i hi => ⟨?_, rfl⟩
      rw [upd2_ne _ _ _ _ (by rintro ⟨e3, _⟩; exact e e3)]
  · by_cases e : l' = l ∧ j = c (l + 1)
    · obtain ⟨rfl, rfl⟩ := e
      rw [upd2_same]; exact hl0 hj
    · rw [upd2_ne _ _ _ _ e]; exact p.low0 l' j hj
  · by_cases e2 : l' = l ∧ j = c (l + 1)
    · obtain ⟨rfl, rfl⟩ := e2
      rw [upd2_same]; exact hlk e
    · rw [upd2_ne _ _ _ _ e2]
      refine p.lowk l' j a ?_ e
      by_cases e3 : l' = l
      · subst e3; rw [upd1_same] at b
        have : j ≠ c (l' + 1) := fun e4 => e2 ⟨rfl, e4⟩
        omega
      · rw [hcs _ (by omega)] at b; exact b
  · show ∃ g' n' cap', upd2 d.slv (l + 1) q (.slice (some ⟨g, 0, none⟩) n cap) l' q' = .slice (some ⟨g', 0, none⟩) n' cap'
    by_cases e : l' = l + 1 ∧ q' = q
    · obtain ⟨rfl, rfl⟩ := e; rw [upd2_same]; exact ⟨g, n, cap, rfl⟩
    · rw [upd2_ne _ _ _ _ e]
      by_cases e3 : l' = l
      · subst e3; rw [upd1_same] at b
        by_cases e4 : q' = c (l' + 1)
        · subst e4; exact hs a
        · exact p.some' l' q' a (by omega) a3
      · rw [hcs _ (by omega)] at b; exact p.some' l' q' a b a3

/-- Low keys more, the builder's cells: of no matter. -/
theorem PT.lows {d : D} {h : Nat} {c : Nat → Nat} {low : Nat → Nat → Value} (p : PT K V kb d h c low) (x : Value × List UInt8) : PT K V kb { d with lows := x :: d.lows } h c low :=
  ⟨p.h1, p.nd0, p.cl, p.leaf, p.inn, p.low0, fun l j a b e => List.mem_cons_of_mem _ (p.lowk l j a b e), p.some'⟩
theorem PT.bld {d : D} {h : Nat} {c : Nat → Nat} {low : Nat → Nat → Value} (p : PT K V kb d h c low) (r : Value) (k : Nat) (sv : Value) (sp : List Value) (col' : Nat → Option (Nat × Nat × Nat)) : PT K V kb { d with root := r, len := k, spv := sv, sp := sp, col := col' } h c low :=
  ⟨p.h1, p.nd0, p.cl, p.leaf, p.inn, p.low0, p.lowk, p.some'⟩

/-- A new root over the old one. -/
theorem PT.root {d : D} {h : Nat} {c : Nat → Nat} {low : Nat → Nat → Value} (p : PT K V kb d h c low) (H g n cap : Nat) (col' : Nat → Option (Nat × Nat × Nat)) (hc : c h = 1) :
    PT K V kb { d with nd := upd1 d.nd h (d.nd h + 1), adr := upd2 d.adr h (d.nd h) H, slv := upd2 d.slv h (d.nd h) (.slice (some ⟨g, 0, none⟩) n cap), it := upd2 d.it h (d.nd h) [.slice none 0 0, ptr (d.adr (h - 1) 0)], col := col' } (h + 1) (upd1 c (h + 1) 1) low := by
  have h1 := p.h1
  have hnd := p.nd0 h (Nat.le_refl _)
  have hcs : ∀ l', l' ≠ h + 1 → upd1 c (h + 1) 1 l' = c l' := fun l' e => upd1_ne _ _ _ e
  refine ⟨by omega, fun l' hl' => ?_, fun l' hl' => ?_, fun q' hq' => ?_, fun l' q' hq' => ?_, p.low0, fun l' j a b e => ?_, fun l' q' a b a3 => ?_⟩
  · show upd1 d.nd h (d.nd h + 1) l' = 0
    rw [upd1_ne _ _ _ (by omega)]; exact p.nd0 l' (by omega)
  · show upd1 c (h + 1) 1 (l' + 1) ≤ upd1 d.nd h (d.nd h + 1) l'
    by_cases e : l' = h
    · subst e; rw [upd1_same, upd1_same]; omega
    · rw [upd1_ne _ _ _ (by omega), upd1_ne _ _ _ e]; exact p.cl l' (by omega)
  · show upd2 d.it h (d.nd h) [.slice none 0 0, ptr (d.adr (h - 1) 0)] 0 q' = _
    have hq2 : q' < upd1 d.nd h (d.nd h + 1) 0 := hq'
    rw [upd1_ne _ _ _ (by omega)] at hq2
    rw [upd2_ne _ _ _ _ (by rintro ⟨e, _⟩; omega), hcs _ (by omega)]
    exact p.leaf q' hq2
  · have hq2 : q' < upd1 d.nd h (d.nd h + 1) (l' + 1) := hq'
    show upd2 d.it h (d.nd h) [.slice none 0 0, ptr (d.adr (h - 1) 0)] (l' + 1) q' = its (low l') (fun j => ptr (upd2 d.adr h (d.nd h) H l' j)) (16 * q') (min 16 (upd1 c (h + 1) 1 (l' + 1) - 16 * q'))
    by_cases e : l' + 1 = h
    · rw [e] at hq2 ⊢
      rw [upd1_same, hnd] at hq2
      have : q' = 0 := by omega
      subst this
      rw [hnd, upd2_same, hcs _ (by omega), hc]
      simp only [its, show min 16 (1 - 16 * 0) = 1 by omega, Nat.mul_zero, Nat.add_zero, List.nil_append]
      rw [upd2_ne _ _ _ _ (by rintro ⟨e2, _⟩; omega), p.low0 l' 0 rfl, show h - 1 = l' by omega]
    · rw [upd1_ne _ _ _ e] at hq2
      have hlt : l' + 1 < h := by
        rcases Nat.lt_or_ge (l' + 1) h with h2 | h2
        · exact h2
        · rw [p.nd0 (l' + 1) h2] at hq2; omega
      rw [upd2_ne _ _ _ _ (by rintro ⟨e2, _⟩; omega), hcs _ (by omega), p.inn l' q' hq2]
      refine its_congr fun i hi => ⟨rfl, ?_⟩
      show ptr (d.adr l' (16 * q' + i)) = ptr (upd2 d.adr h (d.nd h) H l' (16 * q' + i))
      rw [upd2_ne _ _ _ _ (by rintro ⟨e2, _⟩; omega)]
  · by_cases e2 : l' + 1 = h
    · rw [hcs _ (by omega), e2, hc] at b
      exact absurd (show j % 16 = 0 by omega) e
    · rw [hcs _ (by omega)] at b
      exact p.lowk l' j (by omega) b e
  · show ∃ g' n' cap', upd2 d.slv h (d.nd h) (.slice (some ⟨g, 0, none⟩) n cap) l' q' = .slice (some ⟨g', 0, none⟩) n' cap'
    by_cases e : l' = h
    · subst e
      rw [upd1_same] at b
      rw [show q' = d.nd l' by omega, upd2_same]; exact ⟨g, n, cap, rfl⟩
    · rw [upd2_ne _ _ _ _ (by rintro ⟨e2, _⟩; exact e e2)]
      rw [hcs _ (by omega)] at b
      exact p.some' l' q' a b (by omega)

/-! ### The spine: the first m nodes of the road from the root to the last leaf -/
def spl (adr : Nat → Nat → Nat) (nd : Nat → Nat) (h : Nat) : Nat → List Value
  | 0 => []
  | m + 1 => spl adr nd h m ++ [ptr (adr (h - 1 - m) (nd (h - 1 - m) - 1))]

theorem spl_len (adr : Nat → Nat → Nat) (nd : Nat → Nat) (h m : Nat) : (spl adr nd h m).length = m := by
  induction m with
  | zero => rfl
  | succ m ih => simp [spl, ih]
theorem spl_at (adr : Nat → Nat → Nat) (nd : Nat → Nat) (h m s : Nat) (hs : s < m) : (spl adr nd h m)[s]? = some (ptr (adr (h - 1 - s) (nd (h - 1 - s) - 1))) := by
  induction m with
  | zero => omega
  | succ m ih =>
    have hl := spl_len adr nd h m
    simp only [spl]
    by_cases e : s = m
    · subst e; rw [List.getElem?_append_right (by omega), hl, Nat.sub_self]; rfl
    · rw [List.getElem?_append_left (by omega)]; exact ih (by omega)
theorem spl_take (adr : Nat → Nat → Nat) (nd : Nat → Nat) (h m k : Nat) (hk : k ≤ m) : (spl adr nd h m).take k = spl adr nd h k := by
  induction m with
  | zero => have : k = 0 := by omega
            subst this; rfl
  | succ m ih =>
    by_cases e : k = m + 1
    · subst e; rw [List.take_of_length_le (by rw [spl_len]; omega)]
    · have hl := spl_len adr nd h m
      rw [spl, List.take_append_of_le_length (by omega)]
      exact ih (by omega)
theorem spl_congr {adr adr' : Nat → Nat → Nat} {nd nd' : Nat → Nat} {h m : Nat} (hc : ∀ s, s < m → adr (h - 1 - s) (nd (h - 1 - s) - 1) = adr' (h - 1 - s) (nd' (h - 1 - s) - 1)) : spl adr nd h m = spl adr' nd' h m := by
  induction m with
  | zero => rfl
  | succ m ih =>
    simp only [spl]
    rw [ih fun s hs => hc s (by omega), hc m (by omega)]

/-- How many keys, and nodes of each level, a tree of n keys has. -/
def cv (n : Nat) : Nat → Nat
  | 0 => n
  | l + 1 => dv (n - 1) (l + 1) + 1

/-- The tree after n keys. -/
structure Rest (K V : Nat → Value) (kb : Nat → List UInt8) (d : D) (h : Nat) (low : Nat → Nat → Value) (n : Nat) : Prop where
  pt : PT K V kb d h (cv n) low
  nd : ∀ l, l < h → d.nd l = dv (n - 1) (l + 1) + 1
  root : d.root = ptr (d.adr (h - 1) 0)
  len : d.len = n
  sp : d.sp = spl d.adr d.nd h h
  hi : n ≤ 16 ^ h
  lo : h = 1 ∨ 16 ^ (h - 1) < n

end Go.Proofs.Qxb6604003a
