/-
  PLAIN: what zzBuildRel computes, on lists of integers. Nothing of the program in it.
-/
namespace Go.Proofs.Qxb6602514a

theorem getD_set_same (l : List Int) (i : Nat) (v : Int) (h : i < l.length) : (l.set i v).getD i 0 = v := by simp [List.getD, h]
theorem getD_set_ne (l : List Int) (i j : Nat) (v : Int) (h : i ≠ j) : (l.set i v).getD j 0 = l.getD j 0 := by simp [List.getD, h]

/-- Behind k steps: 'ids' are the numbers of the first k steps' transactions, 'idOf' the number of each raw id, m how many there are. -/
structure Ids (zs : List Int) (k : Nat) (ids idOf : List Int) (m : Nat) : Prop where
  lenOf : idOf.length = 256
  lenI : ids.length = zs.length
  mle : m ≤ k
  eq : ∀ j, j < k → ids.getD j 0 = idOf.getD (zs.getD j 0).toNat 0
  nonneg : ∀ j, j < k → 0 ≤ ids.getD j 0
  rng : ∀ x, x < 256 → idOf.getD x 0 = -1 ∨ (0 ≤ idOf.getD x 0 ∧ idOf.getD x 0 < (m : Int))
  inj : ∀ x y, x < 256 → y < 256 → 0 ≤ idOf.getD x 0 → idOf.getD x 0 = idOf.getD y 0 → x = y

theorem Ids.start {zs idOf ids : List Int} (h1 : idOf.length = 256) (h2 : ids.length = zs.length) (h : ∀ j, j < 256 → idOf.getD j 0 = -1) : Ids zs 0 ids idOf 0 :=
  ⟨h1, h2, Nat.le_refl _, fun j hj => by omega, fun j hj => by omega, fun x hx => .inl (h x hx), fun x y hx _ h0 => by have := h x hx; omega⟩

theorem Ids.hit {zs ids idOf : List Int} {k m x : Nat} (h : Ids zs k ids idOf m) (hk : k < zs.length) (hzx : zs.getD k 0 = x) (h0 : 0 ≤ idOf.getD x 0) : Ids zs (k + 1) (ids.set k (idOf.getD x 0)) idOf m := by
  have hl := h.lenI
  refine ⟨h.lenOf, by simpa using hl, by have := h.mle; omega, ?_, ?_, h.rng, h.inj⟩
  · intro j hj
    by_cases e : k = j
    · subst e; rw [getD_set_same _ _ _ (by omega), hzx]; simp
    · rw [getD_set_ne _ _ _ _ e]; exact h.eq j (by omega)
  · intro j hj
    by_cases e : k = j
    · subst e; rw [getD_set_same _ _ _ (by omega)]; exact h0
    · rw [getD_set_ne _ _ _ _ e]; exact h.nonneg j (by omega)

theorem Ids.miss {zs ids idOf : List Int} {k m x : Nat} (h : Ids zs k ids idOf m) (hk : k < zs.length) (hx : x < 256) (hzx : zs.getD k 0 = x) (h0 : idOf.getD x 0 < 0) : Ids zs (k + 1) (ids.set k m) (idOf.set x m) (m + 1) := by
  have hl := h.lenI
  have hlo := h.lenOf
  refine ⟨by simpa using hlo, by simpa using hl, by have := h.mle; omega, ?_, ?_, ?_, ?_⟩
  · intro j hj
    by_cases e : k = j
    · subst e
      rw [getD_set_same _ _ _ (by omega), hzx, Int.toNat_natCast, getD_set_same _ _ _ (by omega)]
    · rw [getD_set_ne _ _ _ _ e]
      have h1 := h.eq j (by omega)
      have h2 := h.nonneg j (by omega)
      have : x ≠ (zs.getD j 0).toNat := by intro hh; rw [← hh] at h1; omega
      rw [getD_set_ne _ _ _ _ this]; exact h1
  · intro j hj
    by_cases e : k = j
    · subst e; rw [getD_set_same _ _ _ (by omega)]; omega
    · rw [getD_set_ne _ _ _ _ e]; exact h.nonneg j (by omega)
  · intro y hy
    by_cases e : x = y
    · subst e; rw [getD_set_same _ _ _ (by omega)]; omega
    · rw [getD_set_ne _ _ _ _ e]; have := h.rng y hy; omega
  · intro y y' hy hy' hp he
    by_cases e : x = y
    · subst e
      rw [getD_set_same _ _ _ (by omega)] at he
      by_cases e' : x = y'
      · exact e'
      · rw [getD_set_ne _ _ _ _ e'] at he; have := h.rng y' hy'; omega
    · rw [getD_set_ne _ _ _ _ e] at he hp
      by_cases e' : x = y'
      · subst e'
        rw [getD_set_same _ _ _ (by omega)] at he; have := h.rng y hy; omega
      · rw [getD_set_ne _ _ _ _ e'] at he; exact h.inj y y' hy hy' hp he

/-- The numbers tell the raw ids apart, and lie below m. -/
theorem Ids.same {zs ids idOf : List Int} {m : Nat} (h : Ids zs zs.length ids idOf m) (hz : ∀ j, j < zs.length → 0 ≤ zs.getD j 0 ∧ zs.getD j 0 < 256) {i j : Nat} (hi : i < zs.length) (hj : j < zs.length) : ids.getD i 0 = ids.getD j 0 ↔ zs.getD i 0 = zs.getD j 0 := by
  have h1 := h.eq i hi
  have h2 := h.eq j hj
  have z1 := hz i hi
  have z2 := hz j hj
  constructor
  · intro he
    have := h.inj (zs.getD i 0).toNat (zs.getD j 0).toNat (by omega) (by omega) (by rw [← h1]; exact h.nonneg i hi) (by rw [← h1, ← h2]; exact he)
    omega
  · intro he; rw [h1, h2, he]
theorem Ids.bd {zs ids idOf : List Int} {k m : Nat} (h : Ids zs k ids idOf m) (hz : ∀ j, j < zs.length → 0 ≤ zs.getD j 0 ∧ zs.getD j 0 < 256) (hk : k ≤ zs.length) {i : Nat} (hi : i < k) : 0 ≤ ids.getD i 0 ∧ ids.getD i 0 < m := by
  have h1 := h.eq i hi
  have h2 := h.nonneg i hi
  have z1 := hz i (by omega)
  have := h.rng (zs.getD i 0).toNat (by omega)
  omega

/-- The last of the first k steps that is t's, or -1. -/
def lastB (ids : List Int) (t : Int) : Nat → Int
  | 0 => -1
  | k + 1 => if ids.getD k 0 = t then (k : Int) else lastB ids t k

theorem lastB_spec (ids : List Int) (t : Int) (k : Nat) : (lastB ids t k = -1 ∧ ∀ j, j < k → ids.getD j 0 ≠ t) ∨ (∃ q : Nat, lastB ids t k = q ∧ q < k ∧ ids.getD q 0 = t ∧ ∀ j, q < j → j < k → ids.getD j 0 ≠ t) := by
  induction k with
  | zero => exact .inl ⟨rfl, fun j hj => by omega⟩
  | succ k ih =>
    unfold lastB
    by_cases e : ids.getD k 0 = t
    · rw [if_pos e]
      exact .inr ⟨k, rfl, by omega, e, fun j h1 h2 => by omega⟩
    · rw [if_neg e]
      rcases ih with ⟨h1, h2⟩ | ⟨q, h1, h2, h3, h4⟩
      · refine .inl ⟨h1, fun j hj => ?_⟩
        by_cases ej : j = k
        · subst ej; exact e
        · exact h2 j (by omega)
      · refine .inr ⟨q, h1, by omega, h3, fun j hj1 hj2 => ?_⟩
        by_cases ej : j = k
        · subst ej; exact e
        · exact h4 j hj1 (by omega)

/-- v is the first of the steps behind j, below k, that is of j's transaction; or -1. -/
def NextP (ids : List Int) (k j : Nat) (v : Int) : Prop :=
  (v = -1 ∧ ∀ i, j < i → i < k → ids.getD i 0 ≠ ids.getD j 0) ∨ (∃ q : Nat, v = q ∧ j < q ∧ q < k ∧ ids.getD q 0 = ids.getD j 0 ∧ ∀ i, j < i → i < q → ids.getD i 0 ≠ ids.getD j 0)

structure Links (ids : List Int) (k m : Nat) (nx pv lst : List Int) : Prop where
  lnx : nx.length = ids.length
  lpv : pv.length = ids.length
  llst : lst.length = m
  last : ∀ t : Nat, t < m → lst.getD t 0 = lastB ids t k
  prev : ∀ j, j < k → pv.getD j 0 = lastB ids (ids.getD j 0) j
  next : ∀ j, j < k → NextP ids k j (nx.getD j 0)

theorem Links.start {ids nx pv lst : List Int} {m : Nat} (h1 : nx.length = ids.length) (h2 : pv.length = ids.length) (h3 : lst.length = m) (h : ∀ t, t < m → lst.getD t 0 = -1) : Links ids 0 m nx pv lst :=
  ⟨h1, h2, h3, fun t ht => h t ht, fun j hj => by omega, fun j hj => by omega⟩

theorem Links.lastAt {ids nx pv lst : List Int} {k m t : Nat} (h : Links ids k m nx pv lst) (ht : t < m) : lst.getD t 0 = -1 ∨ ∃ q : Nat, lst.getD t 0 = q ∧ q < k := by
  rw [h.last t ht]
  rcases lastB_spec ids t k with ⟨h1, _⟩ | ⟨q, h1, h2, _⟩
  · exact .inl h1
  · exact .inr ⟨q, h1, h2⟩

theorem Links.step {ids nx pv lst : List Int} {k m t : Nat} (h : Links ids k m nx pv lst) (hk : k < ids.length) (ht : t < m) (hid : ids.getD k 0 = t) :
    (lst.getD t 0 = -1 → Links ids (k + 1) m (nx.set k (-1)) (pv.set k (lst.getD t 0)) (lst.set t k)) ∧
    (∀ q : Nat, lst.getD t 0 = q → Links ids (k + 1) m ((nx.set k (-1)).set q k) (pv.set k (lst.getD t 0)) (lst.set t k)) := by
  have l1 := h.lnx
  have l2 := h.lpv
  have l3 := h.llst
  have hlast : ∀ t' : Nat, t' < m → (lst.set t k).getD t' 0 = lastB ids t' (k + 1) := by
    intro t' ht'
    unfold lastB
    rw [hid]
    by_cases e : t = t'
    · subst e; rw [getD_set_same _ _ _ (by omega), if_pos rfl]
    · rw [getD_set_ne _ _ _ _ e, if_neg (by omega)]; exact h.last t' ht'
  have hprev : ∀ j, j < k + 1 → (pv.set k (lst.getD t 0)).getD j 0 = lastB ids (ids.getD j 0) j := by
    intro j hj
    by_cases e : k = j
    · subst e; rw [getD_set_same _ _ _ (by omega), hid]; exact h.last t ht
    · rw [getD_set_ne _ _ _ _ e]; exact h.prev j (by omega)
  have hk' : NextP ids (k + 1) k (-1) := .inl ⟨rfl, fun i h1 h2 => by omega⟩
  -- a step of another transaction, or one that already has its next, is as it was
  have hkeep : ∀ j, j < k → (∀ q : Nat, lastB ids t k = q → j ≠ q) → NextP ids (k + 1) j (nx.getD j 0) := by
    intro j hj hq
    rcases h.next j hj with ⟨h1, h2⟩ | ⟨q, h1, h2, h3, h4, h5⟩
    · refine .inl ⟨h1, fun i hi1 hi2 => ?_⟩
      by_cases e : i = k
      · subst e
        intro he
        rw [hid] at he
        rcases lastB_spec ids t i with ⟨_, n2⟩ | ⟨q, n1, n2, n3, n4⟩
        · exact n2 j hj he.symm
        · have := hq q n1
          rcases Nat.lt_or_gt_of_ne this with hlt | hgt
          · exact h2 q hlt n2 (by omega)
          · exact n4 j hgt hj he.symm
      · exact h2 i hi1 (by omega)
    · exact .inr ⟨q, h1, h2, by omega, h4, h5⟩
  constructor
  · intro hm
    refine ⟨by simpa using l1, by simpa using l2, by simpa using l3, hlast, hprev, ?_⟩
    intro j hj
    by_cases e : k = j
    · subst e; rw [getD_set_same _ _ _ (by omega)]; exact hk'
    · rw [getD_set_ne _ _ _ _ e]
      exact hkeep j (by omega) (fun q hq => by rw [← h.last t ht] at hq; omega)
  · intro q hq
    have hlq := h.last t ht
    rw [hq] at hlq
    have hsp : q < k ∧ ids.getD q 0 = t ∧ ∀ j, q < j → j < k → ids.getD j 0 ≠ t := by
      rcases lastB_spec ids t k with ⟨n1, _⟩ | ⟨q', n1, n2, n3, n4⟩
      · omega
      · have : q' = q := by omega
        subst this; exact ⟨n2, n3, n4⟩
    refine ⟨by simpa using l1, by simpa using l2, by simpa using l3, hlast, hprev, ?_⟩
    intro j hj
    by_cases eq : q = j
    · subst eq
      rw [getD_set_same _ _ _ (by simp; omega)]
      exact .inr ⟨k, rfl, hsp.1, by omega, by rw [hid, hsp.2.1], fun i h1 h2 => by rw [hsp.2.1]; exact hsp.2.2 i h1 h2⟩
    · rw [getD_set_ne _ _ _ _ eq]
      by_cases e : k = j
      · subst e; rw [getD_set_same _ _ _ (by omega)]; exact hk'
      · rw [getD_set_ne _ _ _ _ e]
        exact hkeep j (by omega) (fun q' hq' => by omega)

/-- The steps of t among the first k. -/
def pos (ids : List Int) (t : Int) : Nat → List Int
  | 0 => []
  | k + 1 => if ids.getD k 0 = t then pos ids t k ++ [(k : Int)] else pos ids t k

theorem pos_le (ids : List Int) (t : Int) (k : Nat) : (pos ids t k).length ≤ k := by
  induction k with
  | zero => simp [pos]
  | succ k ih =>
    unfold pos
    split
    · simp; omega
    · omega

end Go.Proofs.Qxb6602514a
