/-
  PLAIN: the observers and unit ends that zzAtomic gathers; each (step, observer) comes up once.
-/
import Derived.Test.Qxb6602514aGap
namespace Go.Proofs.Qxb6602514a

/-- The positions 1 .. k at which the mask is set. -/
def kUp (mask : List Bool) : Nat → List Int
  | 0 => []
  | k + 1 => if mask.getD k false = true then kUp mask k ++ [((k : Int) + 1)] else kUp mask k

theorem kUp_mem (mask : List Bool) (k : Nat) (x : Int) : x ∈ kUp mask k ↔ ∃ j : Nat, j < k ∧ x = (j : Int) + 1 ∧ mask.getD j false = true := by
  induction k with
  | zero => simp [kUp]
  | succ k ih =>
    unfold kUp
    by_cases h : mask.getD k false = true
    · rw [if_pos h, List.mem_append, ih]
      constructor
      · rintro (⟨j, h1, h2, h3⟩ | h1)
        · exact ⟨j, by omega, h2, h3⟩
        · exact ⟨k, by omega, by simpa using h1, h⟩
      · rintro ⟨j, h1, h2, h3⟩
        by_cases e : j = k
        · subst e; exact .inr (by simp [h2])
        · exact .inl ⟨j, by omega, h2, h3⟩
    · rw [if_neg h, ih]
      constructor
      · rintro ⟨j, h1, h2, h3⟩; exact ⟨j, by omega, h2, h3⟩
      · rintro ⟨j, h1, h2, h3⟩
        by_cases e : j = k
        · subst e; exact absurd h3 h
        · exact ⟨j, by omega, h2, h3⟩
theorem kUp_len (mask : List Bool) (k : Nat) : (kUp mask k).length ≤ k := by
  induction k with
  | zero => simp [kUp]
  | succ k ih =>
    unfold kUp
    split
    · simp; omega
    · omega
theorem kUp_nodup (mask : List Bool) (k : Nat) : (kUp mask k).Nodup := by
  induction k with
  | zero => simp [kUp]
  | succ k ih =>
    unfold kUp
    split
    · rw [List.nodup_append]
      refine ⟨ih, by simp, ?_⟩
      intro a ha b hb e
      simp at hb
      subst e
      obtain ⟨j, h1, h2, _⟩ := (kUp_mem mask k a).1 ha
      omega
    · exact ih

section
variable (m : Nat) (us : List Int) (slen : Nat → Nat) (ua : Nat → List Bool)
/-- The unit ends that observer o sees in t. -/
def kf (t o : Nat) : List Int := if us.getD (t * m + o) 0 < 0 then [] else kUp (ua (us.getD (t * m + o) 0).toNat) (min (slen t - 1) (ua (us.getD (t * m + o) 0).toNat).length)
/-- Of the first o observers those that see an end. -/
def obsL (t : Nat) : Nat → List Int
  | 0 => []
  | o + 1 => if kf m us slen ua t o = [] then obsL t o else obsL t o ++ [(o : Int)]
end

section
variable {m : Nat} {us : List Int} {slen : Nat → Nat} {ua : Nat → List Bool}
theorem obsL_mem (t o : Nat) (x : Int) : x ∈ obsL m us slen ua t o ↔ ∃ j : Nat, j < o ∧ x = j ∧ kf m us slen ua t j ≠ [] := by
  induction o with
  | zero => simp [obsL]
  | succ o ih =>
    unfold obsL
    by_cases h : kf m us slen ua t o = []
    · rw [if_pos h, ih]
      constructor
      · rintro ⟨j, h1, h2, h3⟩; exact ⟨j, by omega, h2, h3⟩
      · rintro ⟨j, h1, h2, h3⟩
        by_cases e : j = o
        · subst e; exact absurd h h3
        · exact ⟨j, by omega, h2, h3⟩
    · rw [if_neg h, List.mem_append, ih]
      constructor
      · rintro (⟨j, h1, h2, h3⟩ | h1)
        · exact ⟨j, by omega, h2, h3⟩
        · exact ⟨o, by omega, by simpa using h1, h⟩
      · rintro ⟨j, h1, h2, h3⟩
        by_cases e : j = o
        · subst e; exact .inr (by simp [h2])
        · exact .inl ⟨j, by omega, h2, h3⟩
theorem obsL_len (t o : Nat) : (obsL m us slen ua t o).length ≤ o := by
  induction o with
  | zero => simp [obsL]
  | succ o ih =>
    unfold obsL
    split
    · omega
    · simp; omega
theorem obsL_nodup (t o : Nat) : (obsL m us slen ua t o).Nodup := by
  induction o with
  | zero => simp [obsL]
  | succ o ih =>
    unfold obsL
    split
    · exact ih
    · rw [List.nodup_append]
      refine ⟨ih, by simp, ?_⟩
      intro a ha b hb e
      simp at hb
      subst e
      obtain ⟨j, h1, h2, _⟩ := (obsL_mem t o a).1 ha
      omega
theorem kf_nodup (t o : Nat) : (kf m us slen ua t o).Nodup := by
  unfold kf; split
  · simp
  · exact kUp_nodup _ _
theorem kf_rng (t o : Nat) (x : Int) (h : x ∈ kf m us slen ua t o) : 1 ≤ x ∧ x + 1 ≤ (slen t : Int) := by
  unfold kf at h
  split at h
  · simp at h
  · obtain ⟨j, h1, h2, _⟩ := (kUp_mem _ _ _).1 h
    omega
theorem kf_len (t o : Nat) : (kf m us slen ua t o).length ≤ slen t := by
  unfold kf; split
  · simp
  · have := kUp_len (ua (us.getD (t * m + o) 0).toNat) (min (slen t - 1) (ua (us.getD (t * m + o) 0).toNat).length)
    omega
end

/-! ### pos -/
theorem pos_mem (ids : List Int) (t : Int) (k : Nat) (x : Int) : x ∈ pos ids t k ↔ ∃ j : Nat, j < k ∧ x = j ∧ ids.getD j 0 = t := by
  induction k with
  | zero => simp [pos]
  | succ k ih =>
    unfold pos
    by_cases h : ids.getD k 0 = t
    · rw [if_pos h, List.mem_append, ih]
      constructor
      · rintro (⟨j, h1, h2, h3⟩ | h1)
        · exact ⟨j, by omega, h2, h3⟩
        · exact ⟨k, by omega, by simpa using h1, h⟩
      · rintro ⟨j, h1, h2, h3⟩
        by_cases e : j = k
        · subst e; exact .inr (by simp [h2])
        · exact .inl ⟨j, by omega, h2, h3⟩
    · rw [if_neg h, ih]
      constructor
      · rintro ⟨j, h1, h2, h3⟩; exact ⟨j, by omega, h2, h3⟩
      · rintro ⟨j, h1, h2, h3⟩
        by_cases e : j = k
        · subst e; exact absurd h3 h
        · exact ⟨j, by omega, h2, h3⟩
theorem pos_nodup (ids : List Int) (t : Int) (k : Nat) : (pos ids t k).Nodup := by
  induction k with
  | zero => simp [pos]
  | succ k ih =>
    unfold pos
    split
    · rw [List.nodup_append]
      refine ⟨ih, by simp, ?_⟩
      intro a ha b hb e
      simp at hb
      subst e
      obtain ⟨j, h1, h2, _⟩ := (pos_mem ids t k a).1 ha
      omega
    · exact ih
theorem getD_mem {l : List Int} {i : Nat} (h : i < l.length) : l.getD i 0 ∈ l := by
  rw [show l.getD i 0 = l[i] by simp [List.getD, h]]; exact List.getElem_mem _
theorem getD_inj {l : List Int} (hn : l.Nodup) {i j : Nat} (hi : i < l.length) (hj : j < l.length) (h : l.getD i 0 = l.getD j 0) : i = j := by
  simp only [List.getD, List.getElem?_eq_getElem hi, List.getElem?_eq_getElem hj, Option.getD_some] at h
  rcases Nat.lt_trichotomy i j with hlt | heq | hgt
  · exact absurd h (List.pairwise_iff_getElem.1 hn i j hi hj hlt)
  · exact heq
  · exact absurd h.symm (List.pairwise_iff_getElem.1 hn j i hj hi hgt)

/-! ### The events are all different. -/
section
variable {f os : Nat → List Int} {ks : Nat → Nat → List Int}
theorem evK_mem {t i : Nat} {p o : Int} : (p, o) ∈ evK f os ks t i (ks t i).length ↔ ∃ k ∈ ks t i, p = (f t).getD (k - 1).toNat 0 ∧ o = (os t).getD i 0 := by
  unfold evK
  rw [List.take_length, List.mem_map]
  constructor
  · rintro ⟨k, h1, h2⟩
    simp only [Prod.mk.injEq] at h2
    exact ⟨k, h1, h2.1.symm, h2.2.symm⟩
  · rintro ⟨k, h1, h2, h3⟩
    exact ⟨k, h1, by rw [h2, h3]⟩
theorem evI_mem {t L : Nat} {p o : Int} : (p, o) ∈ evI f os ks t L ↔ ∃ i, i < L ∧ (p, o) ∈ evK f os ks t i (ks t i).length := by
  induction L with
  | zero => simp [evI]
  | succ L ih =>
    simp only [evI, List.mem_append, ih]
    constructor
    · rintro (⟨i, h1, h2⟩ | h)
      · exact ⟨i, by omega, h2⟩
      · exact ⟨L, by omega, h⟩
    · rintro ⟨i, h1, h2⟩
      by_cases e : i = L
      · subst e; exact .inr h2
      · exact .inl ⟨i, by omega, h2⟩
theorem evT_mem {m : Nat} {p o : Int} : (p, o) ∈ evT f os ks m ↔ ∃ t, t < m ∧ (p, o) ∈ evI f os ks t (os t).length := by
  induction m with
  | zero => simp [evT]
  | succ L ih =>
    simp only [evT, List.mem_append, ih]
    constructor
    · rintro (⟨i, h1, h2⟩ | h)
      · exact ⟨i, by omega, h2⟩
      · exact ⟨L, by omega, h⟩
    · rintro ⟨i, h1, h2⟩
      by_cases e : i = L
      · subst e; exact .inr h2
      · exact .inl ⟨i, by omega, h2⟩

theorem evT_nodup {m : Nat} (hf : ∀ t, t < m → (f t).Nodup) (hfd : ∀ t t' x, t < m → t' < m → x ∈ f t → x ∈ f t' → t = t') (hos : ∀ t, t < m → (os t).Nodup)
    (hks : ∀ t, t < m → ∀ i, i < (os t).length → (ks t i).Nodup) (hkr : ∀ t, t < m → ∀ i, i < (os t).length → ∀ k ∈ ks t i, 1 ≤ k ∧ k ≤ ((f t).length : Int)) : (evT f os ks m).Nodup := by
  have hK : ∀ t, t < m → ∀ i, i < (os t).length → (evK f os ks t i (ks t i).length).Nodup := by
    intro t ht i hi
    unfold evK
    rw [List.take_length]
    refine List.pairwise_map.2 ((hks t ht i hi).imp_of_mem ?_)
    intro a b ha hb hab e
    simp only [Prod.mk.injEq] at e
    have h1 := hkr t ht i hi a ha
    have h2 := hkr t ht i hi b hb
    have := getD_inj (hf t ht) (by omega) (by omega) e.1
    omega
  have hI : ∀ t, t < m → ∀ L, L ≤ (os t).length → (evI f os ks t L).Nodup := by
    intro t ht L
    induction L with
    | zero => intro _; simp [evI]
    | succ L ih =>
      intro hL
      simp only [evI]
      rw [List.nodup_append]
      refine ⟨ih (by omega), hK t ht L (by omega), ?_⟩
      rintro ⟨p, o⟩ ha ⟨p', o'⟩ hb e
      simp only [Prod.mk.injEq] at e
      obtain ⟨rfl, rfl⟩ := e
      obtain ⟨i, h1, h2⟩ := evI_mem.1 ha
      obtain ⟨_, _, _, h3⟩ := evK_mem.1 h2
      obtain ⟨_, _, _, h4⟩ := evK_mem.1 hb
      have := getD_inj (hos t ht) (show i < (os t).length by omega) (show L < (os t).length by omega) (by rw [← h3, ← h4])
      omega
  have hT : ∀ t, t ≤ m → (evT f os ks t).Nodup := by
    intro t
    induction t with
    | zero => intro _; simp [evT]
    | succ t ih =>
      intro ht
      simp only [evT]
      rw [List.nodup_append]
      refine ⟨ih (by omega), hI t (by omega) _ (Nat.le_refl _), ?_⟩
      rintro ⟨p, o⟩ ha ⟨p', o'⟩ hb e
      simp only [Prod.mk.injEq] at e
      obtain ⟨rfl, rfl⟩ := e
      obtain ⟨t', h1, h2⟩ := evT_mem.1 ha
      obtain ⟨i, h3, h4⟩ := evI_mem.1 h2
      obtain ⟨i', h5, h6⟩ := evI_mem.1 hb
      obtain ⟨k, k1, k2, _⟩ := evK_mem.1 h4
      obtain ⟨k', k1', k2', _⟩ := evK_mem.1 h6
      have r1 := hkr t' (by omega) i h3 k k1
      have r2 := hkr t (by omega) i' h5 k' k1'
      have := hfd t' t p (by omega) (by omega) (by rw [k2]; exact getD_mem (by omega)) (by rw [k2']; exact getD_mem (by omega))
      omega
  exact hT m (Nat.le_refl _)
end

theorem Eof_nodup {ev : List (Int × Int)} (h : ev.Nodup) (p : Nat) : (Eof ev p).Nodup := by
  unfold Eof
  refine List.pairwise_map.2 ((List.Pairwise.filter _ h).imp_of_mem ?_)
  rintro ⟨a1, a2⟩ ⟨b1, b2⟩ ha hb hab e
  rw [List.mem_filter] at ha hb
  have h1 := ha.2
  have h2 := hb.2
  simp at h1 h2 e
  subst h1; subst h2; subst e
  exact hab rfl

theorem cnt_nodup {l : List Int} (h : l.Nodup) (u : Nat) : cnt l u ≤ 1 := by
  induction l with
  | nil => simp [cnt]
  | cons a l ih =>
    rw [List.nodup_cons] at h
    have := ih h.2
    by_cases e : a = (u : Int)
    · subst e
      have h0 : ¬ 0 < cnt l u := fun hp => h.1 ((cnt_pos l u).1 hp)
      unfold cnt at *
      rw [List.filter_cons, if_pos (by simp)]
      simp; omega
    · unfold cnt at *
      rw [List.filter_cons, if_neg (by simpa using e)]; exact this

/-- Sums of counts. -/
def sumC (l : List Int) : Nat → Int
  | 0 => 0
  | m + 1 => sumC l m + cnt l m
theorem sumC_cons (a : Int) (l : List Int) (m : Nat) (ha : 0 ≤ a) : sumC (a :: l) m = sumC l m + if a < m then 1 else 0 := by
  induction m with
  | zero => simp [sumC]; omega
  | succ m ih =>
    simp only [sumC, ih]
    have : cnt (a :: l) m = cnt l m + if a = (m : Int) then 1 else 0 := by
      unfold cnt
      by_cases e : a = (m : Int)
      · rw [List.filter_cons, if_pos (by simpa using e), if_pos e]; simp
      · rw [List.filter_cons, if_neg (by simpa using e), if_neg e]; simp
    rw [this]
    by_cases e1 : a < (m : Int)
    · rw [if_pos e1, if_neg (by omega), if_pos (by omega)]; omega
    · by_cases e2 : a = (m : Int)
      · rw [if_neg e1, if_pos e2, if_pos (by omega)]; omega
      · rw [if_neg e1, if_neg e2, if_neg (by omega)]; omega
theorem length_sumC (l : List Int) (m : Nat) (h : ∀ x ∈ l, 0 ≤ x ∧ x < (m : Int)) : (l.length : Int) = sumC l m := by
  induction l with
  | nil =>
    have : ∀ m, sumC [] m = 0 := by intro m; induction m with | zero => rfl | succ m ih => simp [sumC, ih, cnt]
    rw [this]; rfl
  | cons a l ih =>
    have ha := h a (by simp)
    rw [sumC_cons a l m ha.1, if_pos ha.2, ← ih (fun x hx => h x (by simp [hx]))]
    simp
theorem length_le_of_nodup {l : List Int} {m : Nat} (hn : l.Nodup) (h : ∀ x ∈ l, 0 ≤ x ∧ x < (m : Int)) : l.length ≤ m := by
  have h1 := length_sumC l m h
  have h2 : ∀ k, sumC l k ≤ k := by
    intro k
    induction k with
    | zero => simp [sumC]
    | succ k ih => have := cnt_nodup hn k; simp only [sumC]; omega
  have := h2 m
  omega

end Go.Proofs.Qxb6602514a
