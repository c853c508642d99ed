import Derived.Test.Qxb6604003aMd
set_option linter.unusedVariables false
namespace Go.Proofs.Qxb6604003a
open Go.RowKit

variable {K V : Nat → Value} {kb : Nat → List UInt8}

/-- The road's positions above level l, node x. -/
def pth (adr : Nat → Nat → Nat) : Nat → Nat → Nat → Nat → List Value
  | 0, l, x, i => [ptr (adr l x), .int .i64 (i : Nat)]
  | t + 1, l, x, i => pth adr t (l + 1) (x / 16) (x % 16) ++ [ptr (adr l x), .int .i64 (i : Nat)]

theorem pth_len (adr : Nat → Nat → Nat) (t l x i : Nat) : (pth adr t l x i).length = 2 * (t + 1) := by
  induction t generalizing l x i with
  | zero => rfl
  | succ t ih => simp [pth, ih]; omega
theorem pth_form (adr : Nat → Nat → Nat) (t l x i : Nat) : ∃ up, up.length = 2 * t ∧ ∀ j, pth adr t l x j = up ++ [ptr (adr l x), .int .i64 (j : Nat)] := by
  cases t with
  | zero => exact ⟨[], rfl, fun j => rfl⟩
  | succ t => exact ⟨pth adr t (l + 1) (x / 16) (x % 16), by rw [pth_len], fun j => rfl⟩
theorem pth_top (adr : Nat → Nat → Nat) (t l x i : Nat) : (pth adr t l x i)[t * 2]? = some (ptr (adr l x)) ∧ (pth adr t l x i)[t * 2 + 1]? = some (.int .i64 (i : Nat)) := by
  obtain ⟨up, h1, h2⟩ := pth_form adr t l x i
  rw [h2]
  constructor
  · rw [List.getElem?_append_right (by omega), h1, show t * 2 - 2 * t = 0 by omega]; rfl
  · rw [List.getElem?_append_right (by omega), h1, show t * 2 + 1 - 2 * t = 1 by omega]; rfl
theorem pth_set (adr : Nat → Nat → Nat) (t l x i j : Nat) : (pth adr t l x i).set (t * 2 + 1) (.int .i64 (j : Nat)) = pth adr t l x j := by
  obtain ⟨up, h1, h2⟩ := pth_form adr t l x i
  rw [h2, h2, List.set_append_right _ _ (by omega), h1, show t * 2 + 1 - 2 * t = 1 by omega]; rfl
theorem pth_pop (adr : Nat → Nat → Nat) (t l x i : Nat) : (pth adr (t + 1) l x i).take ((t + 1) * 2) = pth adr t (l + 1) (x / 16) (x % 16) := by
  have := pth_len adr t (l + 1) (x / 16) (x % 16)
  simp only [pth]
  rw [List.take_append_of_le_length (by omega), List.take_of_length_le (by omega)]
theorem pth_push (adr : Nat → Nat → Nat) (t l x i : Nat) (hi : i < 16) : pth adr t (l + 1) x i ++ [ptr (adr l (16 * x + i)), .int .i64 (0 : Nat)] = pth adr (t + 1) l (16 * x + i) 0 := by
  simp only [pth]
  rw [show (16 * x + i) / 16 = x by omega, show (16 * x + i) % 16 = i by omega]

/-- How many entries leaf x holds. -/
def em (n x : Nat) : Nat := min 16 (n - 16 * x)

theorem Rest.ndl {d : D} {h n l : Nat} {low : Nat → Nat → Value} (r : Rest K V kb d h low n) (hl : l < h) : d.nd l = dv (n - 1) (l + 1) + 1 := r.nd l hl

/-- Node j of level l is there if its first key is. -/
theorem Rest.has {d : D} {h n l j : Nat} {low : Nat → Nat → Value} (r : Rest K V kb d h low n) (hl : l < h) (hj : j * 16 ^ (l + 1) < n) : j < d.nd l := by
  rw [r.nd l hl]
  have : j ≤ (n - 1) / 16 ^ (l + 1) := (Nat.le_div_iff_mul_le (Nat.pow_pos (by omega))).2 (by omega)
  unfold dv; omega
/-- .. and if the tree is not empty, the other way round. -/
theorem Rest.first {d : D} {h n l j : Nat} {low : Nat → Nat → Value} (r : Rest K V kb d h low n) (hn : 0 < n) (hl : l < h) (hj : j < d.nd l) : j * 16 ^ (l + 1) < n := by
  rw [r.nd l hl] at hj
  have : j ≤ (n - 1) / 16 ^ (l + 1) := by unfold dv at hj; omega
  have := (Nat.le_div_iff_mul_le (Nat.pow_pos (show 0 < 16 by omega))).1 this
  omega
theorem Rest.beyond {d : D} {h n l j : Nat} {low : Nat → Nat → Value} (r : Rest K V kb d h low n) (hl : l < h) (hj : d.nd l ≤ j) : n ≤ j * 16 ^ (l + 1) := by
  rcases Nat.lt_or_ge (j * 16 ^ (l + 1)) n with h1 | h1
  · have := r.has hl h1; omega
  · exact h1

/-- A leaf, read. -/
theorem TS.leafR {w0 w : World} {base B : Nat} {d : D} {h n : Nat} {low : Nat → Nat → Value} (T : TS w0 w base B d) (r : Rest K V kb d h low n) {x : Nat} (hx : x < d.nd 0) :
    ∃ oa cap, w.cell? ⟨d.adr 0 x, 0, none⟩ = some (.slice oa (em n x) cap) ∧ w.cell? ⟨d.adr 0 x, 1, none⟩ = some (.slice none 0 0) ∧ (0 < em n x → ∃ g, oa = some ⟨g, 0, none⟩ ∧ ∀ i, i < em n x → w.cell? ⟨g, i * 2, none⟩ = some (K (16 * x + i)) ∧ w.cell? ⟨g, i * 2 + 1, none⟩ = some (V (16 * x + i))) := by
  have hr := T.node 0 x hx
  have ho := T.own 0 x hx
  have hi := r.pt.leaf x hx
  have hl : (d.it 0 x).length / 2 = em n x := by rw [hi, its_len]; show 2 * min 16 (n - 16 * x) / 2 = _; unfold em; omega
  rw [hl] at ho
  have hof : ∃ oa cap, d.slv 0 x = .slice oa (em n x) cap := by
    rcases ho.2 with ⟨e, e0⟩ | ⟨g, cap, cur, e, _⟩
    · exact ⟨none, 0, by rw [e, e0]⟩
    · exact ⟨_, cap, e⟩
  obtain ⟨oa, cap, hs⟩ := hof
  rw [hs] at hr ho
  refine ⟨oa, cap, hr.cell 0, hr.cell 1, fun hp => ?_⟩
  obtain ⟨g, cap', e, _⟩ := ho.form hp
  injection e with e1 e2 e3
  subst e1
  subst e3
  refine ⟨g, rfl, fun i hi2 => ?_⟩
  have := its_at K V (16 * x) (em n x) i hi2
  rw [ho.cellAt (i * 2) (by omega), ho.cellAt (i * 2 + 1) (by omega), hi]
  exact this

/-- An inner node, read. -/
theorem TS.innR {w0 w : World} {base B : Nat} {d : D} {h n : Nat} {low : Nat → Nat → Value} (T : TS w0 w base B d) (r : Rest K V kb d h low n) {l x : Nat} (hl : l + 1 < h) (hx : x < d.nd (l + 1)) :
    ∃ g cap, w.cell? ⟨d.adr (l + 1) x, 1, none⟩ = some (.slice (some ⟨g, 0, none⟩) (min 16 (d.nd l - 16 * x)) cap) ∧ ∀ i, i < min 16 (d.nd l - 16 * x) → w.cell? ⟨g, i * 2, none⟩ = some (low l (16 * x + i)) ∧ w.cell? ⟨g, i * 2 + 1, none⟩ = some (ptr (d.adr l (16 * x + i))) := by
  have hr := T.node (l + 1) x hx
  have ho := T.own (l + 1) x hx
  have hi := r.pt.inn l x hx
  have hc : cv n (l + 1) = d.nd l := by rw [r.nd l (by omega)]; rfl
  rw [hc] at hi
  have hlen : (d.it (l + 1) x).length / 2 = min 16 (d.nd l - 16 * x) := by rw [hi, its_len]; omega
  rw [hlen] at ho
  obtain ⟨g, k, cap, hs⟩ := r.pt.some' (l + 1) x (by omega) (by show x < dv (n - 1) (l + 1 + 1) + 1; rw [← r.nd (l + 1) hl]; exact hx) hl
  have hk : k = min 16 (d.nd l - 16 * x) := by
    rcases ho.2 with ⟨e, e0⟩ | ⟨g', cap', cur, e, _⟩
    · rw [hs] at e; cases e
    · rw [hs] at e; injection e
  subst hk
  rw [hs] at hr ho
  refine ⟨g, cap, hr.cell 1, fun i hi2 => ?_⟩
  have := its_at (low l) (fun j => ptr (d.adr l j)) (16 * x) _ i hi2
  rw [ho.cellAt (i * 2) (by omega), ho.cellAt (i * 2 + 1) (by omega), hi]
  exact this

theorem Rest.nd_up {d : D} {h n l x : Nat} {low : Nat → Nat → Value} (r : Rest K V kb d h low n) (hl : l + 1 < h) (hx : x < d.nd l) : x / 16 < d.nd (l + 1) := by
  rw [r.nd l (by omega)] at hx
  rw [r.nd (l + 1) hl, dv_succ]
  omega

theorem Rest.top1 {d : D} {h n x : Nat} {low : Nat → Nat → Value} (r : Rest K V kb d h low n) (hx : x < d.nd (h - 1)) : x = 0 := by
  have h1 := r.pt.h1
  rw [r.nd (h - 1) (by omega), show h - 1 + 1 = h by omega] at hx
  have : dv (n - 1) h = 0 := dv_lt_of_lt (by have := r.hi; have : 0 < 16 ^ h := Nat.pow_pos (by omega); omega)
  omega

theorem Rest.leaf_le {d : D} {h n x : Nat} {low : Nat → Nat → Value} (r : Rest K V kb d h low n) (hx : x < d.nd 0) : 16 * x ≤ n := by
  have h1 := r.pt.h1
  rcases Nat.eq_zero_or_pos n with e | e
  · subst e
    have h2 := r.nd 0 (by omega)
    have h3 : dv (0 - 1) (0 + 1) = 0 := by decide
    omega
  · have := r.first e (show 0 < h by omega) hx
    simp at this; omega

/-- The next key behind a leaf. -/
theorem Rest.popL {d : D} {h n x : Nat} {low : Nat → Nat → Value} (r : Rest K V kb d h low n) (hx : x < d.nd 0) : 16 * x + em n x = min n ((x + 1) * 16 ^ 1) := by
  have := r.leaf_le hx
  unfold em
  simp; omega

/-- The next key behind an inner node whose child 16 x + i is done, where there is no next child. -/
theorem Rest.popI {d : D} {h n l x i : Nat} {low : Nat → Nat → Value} (r : Rest K V kb d h low n) (hl : l < h) (hi : i < 16) (hd : ¬(i + 1 < min 16 (d.nd l - 16 * x))) : min n ((16 * x + i + 1) * 16 ^ (l + 1)) = min n ((x + 1) * 16 ^ (l + 1 + 1)) := by
  have e : (x + 1) * 16 ^ (l + 1 + 1) = (16 * x + 16) * 16 ^ (l + 1) := by
    rw [Nat.pow_succ 16 (l + 1), Nat.mul_comm (16 ^ (l + 1)) 16, ← Nat.mul_assoc, show (x + 1) * 16 = 16 * x + 16 by omega]
  by_cases h15 : i = 15
  · rw [e, show 16 * x + i + 1 = 16 * x + 16 by omega]
  · have h2 := r.beyond (j := 16 * x + i + 1) hl (by omega)
    have h3 : (16 * x + i + 1) * 16 ^ (l + 1) ≤ (16 * x + 16) * 16 ^ (l + 1) := Nat.mul_le_mul_right _ (by omega)
    omega

theorem Rest.popT {d : D} {h n x : Nat} {low : Nat → Nat → Value} (r : Rest K V kb d h low n) (hx : x < d.nd (h - 1)) : min n ((x + 1) * 16 ^ h) = n := by
  have := r.top1 hx
  subst this
  have := r.hi
  rw [Nat.zero_add, Nat.one_mul]; omega

/-- A road's place: a leaf's. -/
def PosL (d : D) (h n p : Nat) (x i : Nat) (st : List Value) : Prop := st = pth d.adr (h - 1) 0 x i ∧ x < d.nd 0 ∧ i ≤ em n x ∧ p = 16 * x + i
/-- .. an inner node's of level l + 1, whose child i is done. -/
def PosI (d : D) (h n p : Nat) (l x i : Nat) (st : List Value) : Prop := st = pth d.adr (h - 1 - (l + 1)) (l + 1) x i ∧ x < d.nd (l + 1) ∧ i < 16 ∧ 16 * x + i < d.nd l ∧ p = min n ((16 * x + i + 1) * 16 ^ (l + 1))

theorem PosL.pop {d : D} {h n p x i : Nat} {st : List Value} {low : Nat → Nat → Value} (r : Rest K V kb d h low n) (P : PosL d h n p x i st) (hi : i = em n x) (hh : 1 < h) : PosI d h n p 0 (x / 16) (x % 16) (st.take ((h - 1) * 2)) := by
  obtain ⟨rfl, h1, h2, rfl⟩ := P
  refine ⟨?_, r.nd_up hh h1, by omega, by omega, ?_⟩
  · have := pth_pop d.adr (h - 1 - 1) 0 x i
    rw [show h - 1 - 1 + 1 = h - 1 by omega] at this
    exact this
  · rw [hi, r.popL h1, show 16 * (x / 16) + x % 16 = x by omega]
theorem PosL.last {d : D} {h n p x i : Nat} {st : List Value} {low : Nat → Nat → Value} (r : Rest K V kb d h low n) (P : PosL d h n p x i st) (hi : i = em n x) (hh : h = 1) : p = n := by
  obtain ⟨rfl, h1, h2, rfl⟩ := P
  subst hh
  rw [hi, r.popL h1]
  exact r.popT h1
theorem PosI.pop {d : D} {h n p l x i : Nat} {st : List Value} {low : Nat → Nat → Value} (r : Rest K V kb d h low n) (P : PosI d h n p l x i st) (hl : l + 1 < h) (hd : ¬(i + 1 < min 16 (d.nd l - 16 * x))) (hh : l + 2 < h) : PosI d h n p (l + 1) (x / 16) (x % 16) (st.take ((h - 1 - (l + 1)) * 2)) := by
  obtain ⟨rfl, h1, h2, h3, rfl⟩ := P
  refine ⟨?_, r.nd_up hh h1, by omega, by omega, ?_⟩
  · have := pth_pop d.adr (h - 1 - (l + 1) - 1) (l + 1) x i
    rw [show h - 1 - (l + 1) - 1 + 1 = h - 1 - (l + 1) by omega] at this
    rw [this, show h - 1 - (l + 1) - 1 = h - 1 - (l + 1 + 1) by omega]
  · rw [r.popI (by omega) h2 hd, show 16 * (x / 16) + x % 16 = x by omega]
theorem PosI.last {d : D} {h n p l x i : Nat} {st : List Value} {low : Nat → Nat → Value} (r : Rest K V kb d h low n) (P : PosI d h n p l x i st) (hl : l + 1 < h) (hd : ¬(i + 1 < min 16 (d.nd l - 16 * x))) (hh : l + 2 = h) : p = n := by
  obtain ⟨rfl, h1, h2, h3, rfl⟩ := P
  rw [r.popI (by omega) h2 hd, hh]
  exact r.popT (by rw [show h - 1 = l + 1 by omega]; exact h1)

/-- On the way down: the road stands at level e + 1, its child 16 X + I of level e is to be taken; its first key is p. -/
def PosD (d : D) (h n p : Nat) (e X I : Nat) (st : List Value) : Prop := st = pth d.adr (h - 1 - (e + 1)) (e + 1) X I ∧ e + 1 < h ∧ I < 16 ∧ 16 * X + I < d.nd e ∧ p = (16 * X + I) * 16 ^ (e + 1) ∧ p < n

theorem PosI.down {d : D} {h n p l x i : Nat} {st : List Value} {low : Nat → Nat → Value} (r : Rest K V kb d h low n) (P : PosI d h n p l x i st) (hl : l + 1 < h) (hd : i + 1 < min 16 (d.nd l - 16 * x)) : PosD d h n p l x (i + 1) (pth d.adr (h - 1 - (l + 1)) (l + 1) x (i + 1)) := by
  obtain ⟨rfl, h1, h2, h3, rfl⟩ := P
  have hn : 0 < n := by
    rcases Nat.eq_zero_or_pos n with e | e
    · have h2 := r.nd l (by omega)
      have h3 : dv (n - 1) (l + 1) = 0 := by rw [e]; unfold dv; simp
      omega
    · exact e
  have hf := r.first hn (show l < h by omega) (show 16 * x + i + 1 < d.nd l by omega)
  refine ⟨rfl, hl, by omega, by omega, ?_, ?_⟩
  · rw [Nat.add_assoc] at hf; rw [Nat.add_assoc]; omega
  · omega
theorem PosD.next {d : D} {h n p e X I : Nat} {st : List Value} {low : Nat → Nat → Value} (r : Rest K V kb d h low n) (P : PosD d h n p (e + 1) X I st) : PosD d h n p e (16 * X + I) 0 (st ++ [ptr (d.adr (e + 1) (16 * X + I)), .int .i64 (0 : Nat)]) := by
  obtain ⟨rfl, h1, h2, h3, h4, h5⟩ := P
  have e4 : (16 * (16 * X + I) + 0) * 16 ^ (e + 1) = p := by
    rw [h4, Nat.pow_succ 16 (e + 1), Nat.mul_comm (16 ^ (e + 1)) 16, ← Nat.mul_assoc, Nat.mul_comm (16 * X + I) 16]; rfl
  refine ⟨?_, by omega, by omega, ?_, e4.symm, h5⟩
  · rw [pth_push d.adr (h - 1 - (e + 1 + 1)) (e + 1) X I h2, show h - 1 - (e + 1 + 1) + 1 = h - 1 - (e + 1) by omega]
  · exact r.has (by omega) (by rw [e4]; exact h5)
theorem PosD.leaf {d : D} {h n p X I : Nat} {st : List Value} {low : Nat → Nat → Value} (r : Rest K V kb d h low n) (P : PosD d h n p 0 X I st) : PosL d h n p (16 * X + I) 0 (st ++ [ptr (d.adr 0 (16 * X + I)), .int .i64 (0 : Nat)]) ∧ 0 < em n (16 * X + I) := by
  obtain ⟨rfl, h1, h2, h3, h4, h5⟩ := P
  simp at h4
  refine ⟨⟨?_, h3, Nat.zero_le _, by omega⟩, by unfold em; omega⟩
  rw [pth_push d.adr (h - 1 - (0 + 1)) 0 X I h2, show h - 1 - (0 + 1) + 1 = h - 1 by omega]

end Go.Proofs.Qxb6604003a
