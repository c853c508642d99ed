/-
  PLAIN: chains of writes; what counting along them tells.
-/
import Derived.Test.Qxb6602514aChainsB
set_option linter.unusedVariables false
namespace Go.Proofs.Qxb6602514a.Ch
open Classical

def sm (g : Nat → Int) : Nat → Int
  | 0 => 0
  | b + 1 => sm g b + g b
theorem sm_congr {g g' : Nat → Int} {n : Nat} (h : ∀ i, i < n → g i = g' i) : sm g n = sm g' n := by
  induction n with
  | zero => rfl
  | succ n ih => simp only [sm]; rw [ih (fun i hi => h i (by omega)), h n (by omega)]
theorem sm_add (g g' : Nat → Int) (n : Nat) : sm (fun i => g i + g' i) n = sm g n + sm g' n := by
  induction n with
  | zero => rfl
  | succ n ih => simp only [sm, ih]; omega
theorem sm_zero (n : Nat) : sm (fun _ => 0) n = 0 := by
  induction n with
  | zero => rfl
  | succ n ih => simp only [sm, ih]; rfl
theorem sm_swap (g : Nat → Nat → Int) (n m : Nat) : sm (fun i => sm (fun j => g i j) m) n = sm (fun j => sm (fun i => g i j) n) m := by
  induction n with
  | zero => simp only [sm]; exact (sm_zero m).symm
  | succ n ih => simp only [sm]; rw [ih, ← sm_add]
theorem sm_le {g : Nat → Int} {n : Nat} (h : ∀ i, i < n → g i ≤ 1) : sm g n ≤ n := by
  induction n with
  | zero => simp [sm]
  | succ n ih => have := ih (fun i hi => h i (by omega)); have := h n (by omega); simp only [sm]; omega
theorem sm_ge {g : Nat → Int} {n : Nat} (h : ∀ i, i < n → 0 ≤ g i) : 0 ≤ sm g n := by
  induction n with
  | zero => simp [sm]
  | succ n ih => have := ih (fun i hi => h i (by omega)); have := h n (by omega); simp only [sm]; omega
theorem sm_full {g : Nat → Int} {n : Nat} (h : ∀ i, i < n → g i ≤ 1) : sm g n = n ↔ ∀ i, i < n → g i = 1 := by
  induction n with
  | zero => simp [sm]
  | succ n ih =>
    have h1 := sm_le (n := n) (fun i hi => h i (by omega))
    have h2 := h n (by omega)
    have h3 := ih (fun i hi => h i (by omega))
    simp only [sm]
    constructor
    · intro he i hi
      by_cases e : i = n
      · subst e; omega
      · exact h3.1 (by omega) i (by omega)
    · intro hall
      have := h3.2 (fun i hi => hall i (by omega))
      have := hall n (by omega)
      omega
theorem sm_one {v n : Nat} (h : v < n) (c : Int) : sm (fun q => if v = q then c else 0) n = c := by
  induction n with
  | zero => omega
  | succ n ih =>
    simp only [sm]
    by_cases e : v = n
    · subst e
      rw [if_pos rfl, sm_congr (g' := fun _ => 0) (fun i hi => if_neg (by omega)), sm_zero]; omega
    · rw [if_neg e, ih (by omega)]; omega
/-- A sum whose terms are 0 but at most at one place. -/
theorem sm_at_most {g : Nat → Int} {n : Nat} {c : Int} (hc : 0 ≤ c) (h : ∀ i, i < n → g i = 0 ∨ g i = c) (hu : ∀ i j, i < n → j < n → g i ≠ 0 → g j ≠ 0 → i = j) : sm g n ≤ c := by
  induction n with
  | zero => simpa [sm] using hc
  | succ n ih =>
    simp only [sm]
    have ih' := ih (fun i hi => h i (by omega)) (fun i j hi hj => hu i j (by omega) (by omega))
    rcases h n (by omega) with h0 | h0
    · omega
    · by_cases hc0 : c = 0
      · omega
      · have : sm g n = 0 := by
          rw [sm_congr (g' := fun _ => 0) (fun i hi => ?_), sm_zero]
          rcases h i (by omega) with h1 | h1
          · exact h1
          · have := hu i n (by omega) (by omega) (by omega) (by omega)
            omega
        omega

/-- The injective image of the first L numbers, counted among the first n. -/
theorem sm_image {p : Nat → Nat} {L n : Nat} (hp : ∀ i, i < L → p i < n) (hi : ∀ i j, i < L → j < L → p i = p j → i = j) : sm (fun q => if ∃ i, i < L ∧ p i = q then 1 else 0) n = L := by
  induction L with
  | zero => rw [sm_congr (g' := fun _ => 0) (fun q _ => if_neg (by rintro ⟨i, h, _⟩; omega)), sm_zero]; rfl
  | succ L ih =>
    have h1 := ih (fun i h => hp i (by omega)) (fun i j a b e => hi i j (by omega) (by omega) e)
    have h2 := sm_one (v := p L) (hp L (by omega)) 1
    have h3 : sm (fun q => if ∃ i, i < L + 1 ∧ p i = q then (1 : Int) else 0) n = sm (fun q => (if ∃ i, i < L ∧ p i = q then (1 : Int) else 0) + if p L = q then (1 : Int) else 0) n := ?_
    · rw [h3, sm_add]; omega
    refine sm_congr fun q hq => ?_
    by_cases e : p L = q
    · have hn : ¬ ∃ i, i < L ∧ p i = q := by
        rintro ⟨i, h3, h4⟩
        have := hi i L (by omega) (by omega) (by rw [h4, e])
        omega
      rw [if_pos ⟨L, by omega, e⟩, if_neg hn, if_pos e]; rfl
    · rw [if_neg e]
      by_cases h3 : ∃ i, i < L ∧ p i = q
      · obtain ⟨i, h4, h5⟩ := h3
        rw [if_pos ⟨i, by omega, h5⟩, if_pos ⟨i, h4, h5⟩]; rfl
      · rw [if_neg h3, if_neg ?_]
        · rfl
        · rintro ⟨i, h4, h5⟩
          by_cases e' : i = L
          · subst e'; exact e h5
          · exact h3 ⟨i, by omega, h5⟩

section
variable (es fs nx fi : List Int) (n N : Nat)
/-- What 'next' and 'first' hold. -/
def NxOk (b : Nat) (nx : List Int) : Prop := ∀ q, q < n → (nx.getD q 0 = -1 ∧ ∀ k, k < b → fs.getD k 0 ≠ (q : Int)) ∨ ∃ k : Nat, k < b ∧ nx.getD q 0 = k ∧ fs.getD k 0 = (q : Int)
def FiOk (b : Nat) (fi : List Int) : Prop := ∀ e, e < N → (fi.getD e 0 = -1 ∧ ∀ k, k < b → ¬ (fs.getD k 0 = -1 ∧ es.getD k 0 = (e : Int))) ∨ ∃ k : Nat, k < b ∧ fi.getD e 0 = k ∧ fs.getD k 0 = -1 ∧ es.getD k 0 = (e : Int)
/-- q is the i-th behind h. -/
def At (h : Nat) : Nat → Nat → Prop
  | 0, q => q = h
  | i + 1, q => ∃ p, p < n ∧ At h i p ∧ nx.getD p 0 = (q : Int)
def On (h q : Nat) : Prop := ∃ i, At nx n h i q
end

section
variable {es fs nx fi : List Int} {n N : Nat}
theorem At.lt (hnx : NxOk fs n n nx) {h i q : Nat} (hh : h < n) (ha : At nx n h i q) : q < n := by
  cases i with
  | zero => have : q = h := ha; omega
  | succ i =>
    obtain ⟨p, h1, h2, h3⟩ := ha
    rcases hnx p h1 with ⟨h4, _⟩ | ⟨k, h4, h5, h6⟩
    · omega
    · omega
theorem nx_back (hnx : NxOk fs n n nx) {p q : Nat} (hp : p < n) (h : nx.getD p 0 = (q : Int)) : fs.getD q 0 = (p : Int) ∧ q < n := by
  rcases hnx p hp with ⟨h4, _⟩ | ⟨k, h4, h5, h6⟩
  · omega
  · have : k = q := by omega
    subst this; exact ⟨h6, h4⟩
theorem At.uniq {h i q q' : Nat} (h1 : At nx n h i q) (h2 : At nx n h i q') : q = q' := by
  induction i generalizing q q' with
  | zero => exact (show q = h from h1).trans (show q' = h from h2).symm
  | succ i ih =>
    obtain ⟨p, _, a2, a3⟩ := h1
    obtain ⟨p', _, b2, b3⟩ := h2
    have := ih a2 b2
    subst this
    omega
theorem At.same (hnx : NxOk fs n n nx) {h h' i i' q : Nat} (hf : fs.getD h 0 < 0) (hf' : fs.getD h' 0 < 0) (h1 : At nx n h i q) (h2 : At nx n h' i' q) : h = h' ∧ i = i' := by
  induction i generalizing i' q with
  | zero =>
    have e : q = h := h1
    subst e
    cases i' with
    | zero => exact ⟨h2, rfl⟩
    | succ i' =>
      obtain ⟨p, b1, _, b3⟩ := h2
      have := (nx_back hnx b1 b3).1
      omega
  | succ i ih =>
    obtain ⟨p, a1, a2, a3⟩ := h1
    have ha := (nx_back hnx a1 a3).1
    cases i' with
    | zero =>
      have e : q = h' := h2
      subst e
      omega
    | succ i' =>
      obtain ⟨p', b1, b2, b3⟩ := h2
      have hb := (nx_back hnx b1 b3).1
      have : p = p' := by omega
      subst this
      have := ih a2 b2
      omega

/-- A path of L writes from h. -/
def Path (nx : List Int) (n h L : Nat) (p : Nat → Nat) : Prop := 1 ≤ L ∧ p 0 = h ∧ (∀ i, i < L → p i < n) ∧ ∀ i, i + 1 < L → nx.getD (p i) 0 = (p (i + 1) : Int)

theorem Path.at {h L : Nat} {p : Nat → Nat} (hp : Path nx n h L p) : ∀ i, i < L → At nx n h i (p i) := by
  intro i
  induction i with
  | zero => intro _; exact hp.2.1
  | succ i ih => intro hi; exact ⟨p i, hp.2.2.1 i (by omega), ih (by omega), hp.2.2.2 i hi⟩
theorem Path.inj (hnx : NxOk fs n n nx) {h L : Nat} {p : Nat → Nat} (hf : fs.getD h 0 < 0) (hp : Path nx n h L p) : ∀ i j, i < L → j < L → p i = p j → i = j := by
  intro i j hi hj e
  have h1 := hp.at i hi
  have h2 := hp.at j hj
  rw [← e] at h2
  exact (At.same hnx hf hf h1 h2).2
theorem Path.le (hnx : NxOk fs n n nx) {h L : Nat} {p : Nat → Nat} (hf : fs.getD h 0 < 0) (hp : Path nx n h L p) : L ≤ n := by
  have h1 := sm_image hp.2.2.1 (hp.inj hnx hf)
  have h2 : sm (fun q => if ∃ i, i < L ∧ p i = q then (1 : Int) else 0) n ≤ n := sm_le (fun i _ => by split <;> omega)
  omega

/-- The whole path from a head, to its end. -/
theorem path_full (hnx : NxOk fs n n nx) {h : Nat} (hh : h < n) (hf : fs.getD h 0 < 0) : ∃ L p, Path nx n h L p ∧ nx.getD (p (L - 1)) 0 < 0 := by
  have key : ∀ m, (∃ L p, Path nx n h L p ∧ nx.getD (p (L - 1)) 0 < 0) ∨ ∃ p, Path nx n h (m + 1) p := by
    intro m
    induction m with
    | zero => exact .inr ⟨fun _ => h, by omega, rfl, fun i _ => hh, fun i hi => by omega⟩
    | succ m ih =>
      rcases ih with ih | ⟨p, hp⟩
      · exact .inl ih
      · by_cases hend : nx.getD (p m) 0 < 0
        · exact .inl ⟨m + 1, p, hp, hend⟩
        · right
          obtain ⟨q, hq⟩ : ∃ q : Nat, nx.getD (p m) 0 = q := ⟨(nx.getD (p m) 0).toNat, by omega⟩
          have hqn := (nx_back hnx (hp.2.2.1 m (by omega)) hq).2
          refine ⟨fun i => if i ≤ m then p i else q, by omega, by simpa using hp.2.1, ?_, ?_⟩
          · intro i hi
            by_cases e : i ≤ m
            · simp only [e, if_true]; exact hp.2.2.1 i (by omega)
            · simp only [e, if_false]; exact hqn
          · intro i hi
            by_cases e : i = m
            · subst e; simp only [Nat.le_refl, if_true, show ¬ i + 1 ≤ i by omega, if_false]; exact hq
            · simp only [show i ≤ m by omega, if_true, show i + 1 ≤ m by omega]; exact hp.2.2.2 i (by omega)
  rcases key n with h1 | ⟨p, hp⟩
  · exact h1
  · have := hp.le hnx hf; omega

/-- How many writes lie on h's chain: as many as the path is long. -/
theorem cH_eq (hnx : NxOk fs n n nx) {h L : Nat} {p : Nat → Nat} (hf : fs.getD h 0 < 0) (hp : Path nx n h L p) (hend : nx.getD (p (L - 1)) 0 < 0) : sm (fun q => if On nx n h q then (1 : Int) else 0) n = L := by
  rw [← sm_image hp.2.2.1 (hp.inj hnx hf)]
  refine sm_congr fun q hq => ?_
  have key : ∀ i q, At nx n h i q → i < L := by
    intro i
    induction i with
    | zero => intro _ _; have := hp.1; omega
    | succ i ih =>
      rintro q ⟨r, a1, a2, a3⟩
      have hi := ih r a2
      have e := At.uniq a2 (hp.at i hi)
      subst e
      by_cases e : i = L - 1
      · subst e; omega
      · omega
  have : On nx n h q ↔ ∃ i, i < L ∧ p i = q := by
    constructor
    · rintro ⟨i, hi⟩
      have hl := key i q hi
      exact ⟨i, hl, At.uniq (hp.at i hl) hi⟩
    · rintro ⟨i, hl, rfl⟩
      exact ⟨i, hp.at i hl⟩
  by_cases ho : On nx n h q
  · rw [if_pos ho, if_pos (this.1 ho)]
  · rw [if_neg ho, if_neg (fun h' => ho (this.2 h'))]

/-- What is counted along the chains of the blind writes; along those of the first ones. -/
def TotA (fs nx : List Int) (n b : Nat) (T : Int) : Prop := T = sm (fun k => if fs.getD k 0 = -2 then sm (fun q => if On nx n k q then (1 : Int) else 0) n else 0) b
def TotB (fi nx : List Int) (n b : Nat) (T : Int) : Prop := T = sm (fun e => if 0 ≤ fi.getD e 0 then sm (fun q => if On nx n (fi.getD e 0).toNat q then (1 : Int) else 0) n else 0) b

def Counted (fs nx fi : List Int) (n N q : Nat) : Prop := (∃ h, h < n ∧ fs.getD h 0 = -2 ∧ On nx n h q) ∨ ∃ e, e < N ∧ 0 ≤ fi.getD e 0 ∧ On nx n (fi.getD e 0).toNat q

theorem total_full (hnx : NxOk fs n n nx) (hfi : FiOk es fs N n fi) {A B : Int} (hA : TotA fs nx n n A) (hB : TotB fi nx n N B) : A + B = n ↔ ∀ q, q < n → Counted fs nx fi n N q := by
  have e1 : A + B = sm (fun q => sm (fun k => if fs.getD k 0 = -2 ∧ On nx n k q then 1 else 0) n + sm (fun e => if 0 ≤ fi.getD e 0 ∧ On nx n (fi.getD e 0).toNat q then 1 else 0) N) n := by
    rw [hA, hB, sm_add, sm_swap (fun q k => if fs.getD k 0 = -2 ∧ On nx n k q then 1 else 0) n n, sm_swap (fun q e => if 0 ≤ fi.getD e 0 ∧ On nx n (fi.getD e 0).toNat q then 1 else 0) n N]
    congr 1
    · refine sm_congr fun k _ => ?_
      by_cases h : fs.getD k 0 = -2
      · rw [if_pos h]; refine sm_congr fun q _ => ?_
        by_cases h' : On nx n k q
        · rw [if_pos h', if_pos ⟨h, h'⟩]
        · rw [if_neg h', if_neg (fun x => h' x.2)]
      · rw [if_neg h, sm_congr (g' := fun _ => 0) (fun q _ => if_neg (fun x => h x.1)), sm_zero]
    · refine sm_congr fun k _ => ?_
      by_cases h : 0 ≤ fi.getD k 0
      · rw [if_pos h]; refine sm_congr fun q _ => ?_
        by_cases h' : On nx n (fi.getD k 0).toNat q
        · rw [if_pos h', if_pos ⟨h, h'⟩]
        · rw [if_neg h', if_neg (fun x => h' x.2)]
      · rw [if_neg h, sm_congr (g' := fun _ => 0) (fun q _ => if_neg (fun x => h x.1)), sm_zero]
  have hfih : ∀ e, e < N → 0 ≤ fi.getD e 0 → ∃ k : Nat, k < n ∧ (fi.getD e 0).toNat = k ∧ fs.getD k 0 = -1 ∧ es.getD k 0 = (e : Int) := by
    intro e he h0
    rcases hfi e he with ⟨h1, _⟩ | ⟨k, h1, h2, h3, h4⟩
    · omega
    · exact ⟨k, h1, by omega, h3, h4⟩
  have b1 : ∀ q, 0 ≤ sm (fun k => if fs.getD k 0 = -2 ∧ On nx n k q then (1 : Int) else 0) n := fun q => sm_ge (fun i _ => by split <;> omega)
  have b2 : ∀ q, 0 ≤ sm (fun e => if 0 ≤ fi.getD e 0 ∧ On nx n (fi.getD e 0).toNat q then (1 : Int) else 0) N := fun q => sm_ge (fun i _ => by split <;> omega)
  have u1 : ∀ q, sm (fun k => if fs.getD k 0 = -2 ∧ On nx n k q then (1 : Int) else 0) n ≤ 1 := by
    intro q
    refine sm_at_most (by omega) (fun i _ => by split <;> simp) ?_
    intro i j _ _ hi hj
    by_cases ci : fs.getD i 0 = -2 ∧ On nx n i q
    · by_cases cj : fs.getD j 0 = -2 ∧ On nx n j q
      · obtain ⟨x, hx⟩ := ci.2
        obtain ⟨y, hy⟩ := cj.2
        exact (At.same hnx (by have := ci.1; omega) (by have := cj.1; omega) hx hy).1
      · rw [if_neg cj] at hj; exact absurd rfl hj
    · rw [if_neg ci] at hi; exact absurd rfl hi
  have u2 : ∀ q, sm (fun e => if 0 ≤ fi.getD e 0 ∧ On nx n (fi.getD e 0).toNat q then (1 : Int) else 0) N ≤ 1 := by
    intro q
    refine sm_at_most (by omega) (fun i _ => by split <;> simp) ?_
    intro i j hiN hjN hi hj
    by_cases ci : 0 ≤ fi.getD i 0 ∧ On nx n (fi.getD i 0).toNat q
    · by_cases cj : 0 ≤ fi.getD j 0 ∧ On nx n (fi.getD j 0).toNat q
      · obtain ⟨x, hx⟩ := ci.2
        obtain ⟨y, hy⟩ := cj.2
        obtain ⟨k, _, k2, k3, k4⟩ := hfih i hiN ci.1
        obtain ⟨l, _, l2, l3, l4⟩ := hfih j hjN cj.1
        rw [k2] at hx
        rw [l2] at hy
        have := (At.same hnx (by omega) (by omega) hx hy).1
        subst this
        omega
      · rw [if_neg cj] at hj; exact absurd rfl hj
    · rw [if_neg ci] at hi; exact absurd rfl hi
  -- where the first is positive the second is nought
  have pos1 : ∀ q, 0 < sm (fun k => if fs.getD k 0 = -2 ∧ On nx n k q then (1 : Int) else 0) n ↔ ∃ h, h < n ∧ fs.getD h 0 = -2 ∧ On nx n h q := by
    intro q
    constructor
    · intro hp
      refine byContradiction fun hno => ?_
      rw [sm_congr (g' := fun _ => 0) (fun k hk => if_neg (fun x => hno ⟨k, hk, x.1, x.2⟩)), sm_zero] at hp
      omega
    · rintro ⟨h, h1, h2, h3⟩
      have hle : sm (fun k => if h = k then (1 : Int) else 0) n ≤ sm (fun k => if fs.getD k 0 = -2 ∧ On nx n k q then (1 : Int) else 0) n := by
        have : sm (fun k => if fs.getD k 0 = -2 ∧ On nx n k q then (1 : Int) else 0) n = sm (fun k => if h = k then (1 : Int) else 0) n + sm (fun k => (if fs.getD k 0 = -2 ∧ On nx n k q then (1 : Int) else 0) - if h = k then (1 : Int) else 0) n := by
          rw [← sm_add]; refine sm_congr fun i _ => ?_; omega
        have h0 : 0 ≤ sm (fun k => (if fs.getD k 0 = -2 ∧ On nx n k q then (1 : Int) else 0) - if h = k then (1 : Int) else 0) n := by
          refine sm_ge (fun i _ => ?_)
          by_cases e : h = i
          · subst e; rw [if_pos ⟨h2, h3⟩, if_pos rfl]; omega
          · rw [if_neg e]; split <;> omega
        omega
      rw [sm_one h1] at hle; omega
  have pos2 : ∀ q, 0 < sm (fun e => if 0 ≤ fi.getD e 0 ∧ On nx n (fi.getD e 0).toNat q then (1 : Int) else 0) N ↔ ∃ e, e < N ∧ 0 ≤ fi.getD e 0 ∧ On nx n (fi.getD e 0).toNat q := by
    intro q
    constructor
    · intro hp
      refine byContradiction fun hno => ?_
      rw [sm_congr (g' := fun _ => 0) (fun k hk => if_neg (fun x => hno ⟨k, hk, x.1, x.2⟩)), sm_zero] at hp
      omega
    · rintro ⟨h, h1, h2, h3⟩
      have hle : sm (fun k => if h = k then (1 : Int) else 0) N ≤ sm (fun e => if 0 ≤ fi.getD e 0 ∧ On nx n (fi.getD e 0).toNat q then (1 : Int) else 0) N := by
        have : sm (fun e => if 0 ≤ fi.getD e 0 ∧ On nx n (fi.getD e 0).toNat q then (1 : Int) else 0) N = sm (fun k => if h = k then (1 : Int) else 0) N + sm (fun e => (if 0 ≤ fi.getD e 0 ∧ On nx n (fi.getD e 0).toNat q then (1 : Int) else 0) - if h = e then (1 : Int) else 0) N := by
          rw [← sm_add]; refine sm_congr fun i _ => ?_; omega
        have h0 : 0 ≤ sm (fun e => (if 0 ≤ fi.getD e 0 ∧ On nx n (fi.getD e 0).toNat q then (1 : Int) else 0) - if h = e then (1 : Int) else 0) N := by
          refine sm_ge (fun i _ => ?_)
          by_cases e : h = i
          · subst e; rw [if_pos ⟨h2, h3⟩, if_pos rfl]; omega
          · rw [if_neg e]; split <;> omega
        omega
      rw [sm_one h1] at hle; omega
  have excl : ∀ q, ¬ ((∃ h, h < n ∧ fs.getD h 0 = -2 ∧ On nx n h q) ∧ ∃ e, e < N ∧ 0 ≤ fi.getD e 0 ∧ On nx n (fi.getD e 0).toNat q) := by
    rintro q ⟨⟨h, h1, h2, x, hx⟩, e, e1, e2, y, hy⟩
    obtain ⟨k, _, k2, k3, _⟩ := hfih e e1 e2
    rw [k2] at hy
    have := (At.same hnx (by omega) (by omega) hx hy).1
    subst this
    omega
  rw [e1, sm_full]
  · constructor
    · intro h q hq
      have := h q hq
      have a := u1 q
      have b := u2 q
      have c := b1 q
      have d := b2 q
      by_cases hz : 0 < sm (fun k => if fs.getD k 0 = -2 ∧ On nx n k q then (1 : Int) else 0) n
      · exact .inl ((pos1 q).1 hz)
      · exact .inr ((pos2 q).1 (by omega))
    · intro h q hq
      have a := u1 q
      have b := u2 q
      have c := b1 q
      have d := b2 q
      have x1 := pos1 q
      have x2 := pos2 q
      have x3 := excl q
      rcases h q hq with h1 | h1
      · have := x1.2 h1
        have : ¬ 0 < sm (fun e => if 0 ≤ fi.getD e 0 ∧ On nx n (fi.getD e 0).toNat q then (1 : Int) else 0) N := fun hh => x3 ⟨h1, x2.1 hh⟩
        omega
      · have := x2.2 h1
        have : ¬ 0 < sm (fun k => if fs.getD k 0 = -2 ∧ On nx n k q then (1 : Int) else 0) n := fun hh => x3 ⟨x1.1 hh, h1⟩
        omega
  · intro q _
    have a := u1 q
    have b := u2 q
    have c := b1 q
    have d := b2 q
    have x1 := pos1 q
    have x2 := pos2 q
    have x3 := excl q
    by_cases hz : 0 < sm (fun k => if fs.getD k 0 = -2 ∧ On nx n k q then (1 : Int) else 0) n
    · have : ¬ 0 < sm (fun e => if 0 ≤ fi.getD e 0 ∧ On nx n (fi.getD e 0).toNat q then (1 : Int) else 0) N := fun hh => x3 ⟨x1.1 hz, x2.1 hh⟩
      omega
    · omega

theorem cF_two {fs : List Int} {q : Nat} : ∀ b, 1 < cF fs q b → ∃ i j, i < j ∧ j < b ∧ fs.getD i 0 = (q : Int) ∧ fs.getD j 0 = (q : Int) := by
  have one : ∀ b, 0 < cF fs q b → ∃ i, i < b ∧ fs.getD i 0 = (q : Int) := by
    intro b
    induction b with
    | zero => intro h; simp [cF] at h
    | succ b ih =>
      intro h
      simp only [cF] at h
      by_cases e : fs.getD b 0 = (q : Int)
      · exact ⟨b, by omega, e⟩
      · rw [if_neg e] at h
        obtain ⟨i, h1, h2⟩ := ih (by omega)
        exact ⟨i, by omega, h2⟩
  intro b
  induction b with
  | zero => intro h; simp [cF] at h
  | succ b ih =>
    intro h
    simp only [cF] at h
    by_cases e : fs.getD b 0 = (q : Int)
    · rw [if_pos e] at h
      obtain ⟨i, h1, h2⟩ := one b (by omega)
      exact ⟨i, b, h1, by omega, h2, e⟩
    · rw [if_neg e] at h
      obtain ⟨i, j, h1, h2, h3, h4⟩ := ih (by omega)
      exact ⟨i, j, h1, by omega, h3, h4⟩
theorem cF_uniq {fs : List Int} {q b i j : Nat} (h : cF fs q b ≤ 1) (hi : i < b) (hj : j < b) (h1 : fs.getD i 0 = (q : Int)) (h2 : fs.getD j 0 = (q : Int)) : i = j := by
  have mono : ∀ b c, b ≤ c → cF fs q b ≤ cF fs q c := by
    intro b c hbc
    induction c with
    | zero => have : b = 0 := by omega
              subst this; exact Int.le_refl _
    | succ c ih =>
      by_cases e : b = c + 1
      · subst e; exact Int.le_refl _
      · have := ih (by omega)
        simp only [cF]; split <;> omega
  have key : ∀ i j, i < j → j < b → fs.getD i 0 = (q : Int) → fs.getD j 0 = (q : Int) → False := by
    intro i j hij hjb a1 a2
    have m1 := mono (i + 1) j (by omega)
    have m2 := mono (j + 1) b (by omega)
    have b0 := (cF_bd fs q i).1
    have e1 : cF fs q (i + 1) = cF fs q i + 1 := by simp only [cF]; rw [if_pos a1]
    have e2 : cF fs q (j + 1) = cF fs q j + 1 := by simp only [cF]; rw [if_pos a2]
    omega
  rcases Nat.lt_trichotomy i j with hh | hh | hh
  · exact (key i j hh hj h1 h2).elim
  · exact hh
  · exact (key j i hh hi h2 h1).elim
theorem cI_two {es fs : List Int} {q : Nat} : ∀ b, 1 < cI es fs q b → ∃ i j, i < j ∧ j < b ∧ (fs.getD i 0 = -1 ∧ es.getD i 0 = (q : Int)) ∧ fs.getD j 0 = -1 ∧ es.getD j 0 = (q : Int) := by
  have one : ∀ b, 0 < cI es fs q b → ∃ i, i < b ∧ fs.getD i 0 = -1 ∧ es.getD i 0 = (q : Int) := by
    intro b
    induction b with
    | zero => intro h; simp [cI] at h
    | succ b ih =>
      intro h
      simp only [cI] at h
      by_cases e : fs.getD b 0 = -1 ∧ es.getD b 0 = (q : Int)
      · exact ⟨b, by omega, e⟩
      · rw [if_neg e] at h
        obtain ⟨i, h1, h2⟩ := ih (by omega)
        exact ⟨i, by omega, h2⟩
  intro b
  induction b with
  | zero => intro h; simp [cI] at h
  | succ b ih =>
    intro h
    simp only [cI] at h
    by_cases e : fs.getD b 0 = -1 ∧ es.getD b 0 = (q : Int)
    · rw [if_pos e] at h
      obtain ⟨i, h1, h2⟩ := one b (by omega)
      exact ⟨i, b, h1, by omega, h2, e⟩
    · rw [if_neg e] at h
      obtain ⟨i, j, h1, h2, h3, h4⟩ := ih (by omega)
      exact ⟨i, j, h1, by omega, h3, h4⟩
theorem cI_uniq {es fs : List Int} {q b i j : Nat} (h : cI es fs q b ≤ 1) (hi : i < b) (hj : j < b) (h1 : fs.getD i 0 = -1 ∧ es.getD i 0 = (q : Int)) (h2 : fs.getD j 0 = -1 ∧ es.getD j 0 = (q : Int)) : i = j := by
  have mono : ∀ b c, b ≤ c → cI es fs q b ≤ cI es fs q c := by
    intro b c hbc
    induction c with
    | zero => have : b = 0 := by omega
              subst this; exact Int.le_refl _
    | succ c ih =>
      by_cases e : b = c + 1
      · subst e; exact Int.le_refl _
      · have := ih (by omega)
        simp only [cI]; split <;> omega
  have key : ∀ i j, i < j → j < b → (fs.getD i 0 = -1 ∧ es.getD i 0 = (q : Int)) → (fs.getD j 0 = -1 ∧ es.getD j 0 = (q : Int)) → False := by
    intro i j hij hjb a1 a2
    have m1 := mono (i + 1) j (by omega)
    have m2 := mono (j + 1) b (by omega)
    have b0 := (cI_bd es fs q i).1
    have e1 : cI es fs q (i + 1) = cI es fs q i + 1 := by simp only [cI]; rw [if_pos a1]
    have e2 : cI es fs q (j + 1) = cI es fs q j + 1 := by simp only [cI]; rw [if_pos a2]
    omega
  rcases Nat.lt_trichotomy i j with hh | hh | hh
  · exact (key i j hh hj h1 h2).elim
  · exact hh
  · exact (key j i hh hi h2 h1).elim

theorem At.hd (hnx : NxOk fs n n nx) {h : Nat} (hf : fs.getD h 0 < 0) : ∀ i q, At nx n h i q → ∀ fuel, i < fuel → Ch.hd fs fuel q = h := by
  intro i
  induction i with
  | zero =>
    intro q hq fuel hfu
    have e : q = h := hq
    subst e
    obtain ⟨g, rfl⟩ : ∃ g, fuel = g + 1 := ⟨fuel - 1, by omega⟩
    simp only [Ch.hd]; rw [if_pos hf]
  | succ i ih =>
    rintro q ⟨p, a1, a2, a3⟩ fuel hfu
    have hb := nx_back hnx a1 a3
    obtain ⟨g, rfl⟩ : ∃ g, fuel = g + 1 := ⟨fuel - 1, by omega⟩
    simp only [Ch.hd]; rw [if_neg (by omega), hb.1, Int.toNat_natCast]
    exact ih p a2 g (by omega)
theorem At.len (hnx : NxOk fs n n nx) {h : Nat} (hh : h < n) (hf : fs.getD h 0 < 0) {i q : Nat} (ha : At nx n h i q) : i < n := by
  obtain ⟨L, p, hp, hend⟩ := path_full hnx hh hf
  have key : ∀ i q, At nx n h i q → i < L := by
    intro i
    induction i with
    | zero => intro _ _; have := hp.1; omega
    | succ i ih =>
      rintro q ⟨r, a1, a2, a3⟩
      have hi := ih r a2
      have e := At.uniq a2 (hp.at i hi)
      subst e
      by_cases e : i = L - 1
      · subst e; omega
      · omega
  have := key i q ha
  have := hp.le hnx hf
  omega

theorem counted_model (hd : DomP es fs n N) (hnx : NxOk fs n n nx) (hfi : FiOk es fs N n fi) : (∀ q, q < n → Counted fs nx fi n N q) ↔ ModelP es fs n N := by
  have hfih : ∀ e, e < N → 0 ≤ fi.getD e 0 → ∃ k : Nat, k < n ∧ (fi.getD e 0).toNat = k ∧ fs.getD k 0 = -1 ∧ es.getD k 0 = (e : Int) := by
    intro e he h0
    rcases hfi e he with ⟨h1, _⟩ | ⟨k, h1, h2, h3, h4⟩
    · omega
    · exact ⟨k, h1, by omega, h3, h4⟩
  have chead : ∀ q, Counted fs nx fi n N q → ∃ h, h < n ∧ fs.getD h 0 < 0 ∧ On nx n h q ∧ (fs.getD h 0 = -2 ∨ ∃ e, e < N ∧ 0 ≤ fi.getD e 0 ∧ (fi.getD e 0).toNat = h) := by
    rintro q (⟨h, h1, h2, h3⟩ | ⟨e, e1, e2, e3⟩)
    · exact ⟨h, h1, by omega, h3, .inl h2⟩
    · obtain ⟨k, k1, k2, k3, k4⟩ := hfih e e1 e2
      rw [k2] at e3
      exact ⟨k, k1, by omega, e3, .inr ⟨e, e1, e2, k2⟩⟩
  constructor
  · intro hall
    -- a write that follows q is q's next
    have hnext : ∀ k, k < n → ∀ q : Nat, fs.getD k 0 = q → nx.getD q 0 = k := by
      intro k hk q hq
      obtain ⟨h, h1, h2, ⟨i, hi⟩, _⟩ := chead k (hall k hk)
      cases i with
      | zero =>
        have e : k = h := hi
        subst e; omega
      | succ i =>
        obtain ⟨p, a1, a2, a3⟩ := hi
        have := (nx_back hnx a1 a3).1
        have : p = q := by omega
        subst this; exact a3
    refine ⟨fun k hk => ⟨?_, ?_⟩, ?_⟩
    · refine Int.not_lt.1 fun hgt => ?_
      obtain ⟨i, j, h1, h2, h3, h4⟩ := cF_two n hgt
      have a := hnext i (by omega) k h3
      have b := hnext j h2 k h4
      omega
    · obtain ⟨h, h1, h2, ⟨i, hi⟩, _⟩ := chead k (hall k hk)
      rw [At.hd hnx h2 i k hi (n + 1) (by have := At.len hnx h1 h2 hi; omega)]
      omega
    · intro e he
      refine Int.not_lt.1 fun hgt => ?_
      obtain ⟨i, j, h1, h2, h3, h4⟩ := cI_two n hgt
      have key : ∀ k, k < n → fs.getD k 0 = -1 → es.getD k 0 = (e : Int) → fi.getD e 0 = k := by
        intro k hk a1 a2
        obtain ⟨h, g1, g2, ⟨x, hx⟩, g4⟩ := chead k (hall k hk)
        cases x with
        | succ x =>
          obtain ⟨p, b1, b2, b3⟩ := hx
          have := (nx_back hnx b1 b3).1
          omega
        | zero =>
          have e' : k = h := hx
          subst e'
          rcases g4 with g4 | ⟨e'', c1, c2, c3⟩
          · omega
          · obtain ⟨k', k1, k2, k3, k4⟩ := hfih e'' c1 c2
            have : k' = k := by omega
            subst this
            have : e'' = e := by omega
            subst this
            omega
      have a := key i (by omega) h3.1 h3.2
      have b := key j h2 h4.1 h4.2
      omega
  · rintro ⟨hm1, hm2⟩ q hq
    have key : ∀ fuel q, q < n → 0 ≤ Ch.hd fs fuel q → ∃ h, h < n ∧ fs.getD h 0 < 0 ∧ On nx n h q := by
      intro fuel
      induction fuel with
      | zero => intro q _ h; simp [Ch.hd] at h
      | succ fuel ih =>
        intro q hq h
        by_cases hneg : fs.getD q 0 < 0
        · exact ⟨q, hq, hneg, 0, rfl⟩
        · simp only [Ch.hd] at h
          rw [if_neg hneg] at h
          have hdq := (hd q hq).2
          obtain ⟨p, hp⟩ : ∃ p : Nat, fs.getD q 0 = p := ⟨(fs.getD q 0).toNat, by omega⟩
          rw [hp, Int.toNat_natCast] at h
          have hpn : p < n := by omega
          obtain ⟨hh, a1, a2, i, hi⟩ := ih p hpn h
          refine ⟨hh, a1, a2, i + 1, p, hpn, hi, ?_⟩
          rcases hnx p hpn with ⟨_, n2⟩ | ⟨k, n1, n2, n3⟩
          · exact absurd hp (n2 q hq)
          · rw [n2, cF_uniq (hm1 p hpn).1 n1 hq n3 hp]
    obtain ⟨h, h1, h2, h3⟩ := key (n + 1) q hq (hm1 q hq).2
    have hdh := hd h h1
    by_cases hb : fs.getD h 0 = -2
    · exact .inl ⟨h, h1, hb, h3⟩
    · have hi : fs.getD h 0 = -1 := by omega
      obtain ⟨e, he⟩ : ∃ e : Nat, es.getD h 0 = e := ⟨(es.getD h 0).toNat, by omega⟩
      have heN : e < N := by omega
      refine .inr ⟨e, heN, ?_⟩
      rcases hfi e heN with ⟨_, n2⟩ | ⟨k, n1, n2, n3, n4⟩
      · exact absurd ⟨hi, he⟩ (n2 h h1)
      · have : k = h := cI_uniq (hm2 e heN) n1 h1 ⟨n3, n4⟩ ⟨hi, he⟩
        subst this
        rw [n2, Int.toNat_natCast]
        exact ⟨by omega, h3⟩
end
end Go.Proofs.Qxb6602514a.Ch
