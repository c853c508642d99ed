/-
  PLAIN: what zzAtomicModel says is what atomic says.
-/
import Derived.Test.Qxb6602514aZAt
set_option linter.unusedVariables false
namespace Go.Proofs.Qxb6602514a

theorem pos_sorted (ids : List Int) (t : Int) (k : Nat) : (pos ids t k).Pairwise (· < ·) := by
  induction k with
  | zero => simp [pos]
  | succ k ih =>
    unfold pos
    split
    · rw [List.pairwise_append]
      refine ⟨ih, by simp, ?_⟩
      intro a ha b hb
      simp at hb
      obtain ⟨j, h1, h2, _⟩ := (pos_mem ids t k a).1 ha
      omega
    · exact ih
theorem pos_lt {ids : List Int} {t : Int} {n i j : Nat} (hij : i < j) (hj : j < (pos ids t n).length) : (pos ids t n).getD i 0 < (pos ids t n).getD j 0 := by
  have := List.pairwise_iff_getElem.1 (pos_sorted ids t n) i j (by omega) hj hij
  simpa [List.getD, hj, show i < (pos ids t n).length by omega] using this
theorem mem_getD {l : List Int} {x : Int} (h : x ∈ l) : ∃ i, i < l.length ∧ l.getD i 0 = x := by
  obtain ⟨i, hi, rfl⟩ := List.getElem_of_mem h
  exact ⟨i, hi, by simp [List.getD, hi]⟩

/-- Does observer u see a unit of t end at its k-th step? -/
def EndsB (m : Nat) (us : List Int) (ua : Nat → List Bool) (t u k : Nat) : Bool :=
  if us.getD (t * m + u) 0 < 0 then false else decide (k ≤ (ua (us.getD (t * m + u) 0).toNat).length) && (ua (us.getD (t * m + u) 0).toNat).getD (k - 1) false

def GapP (m : Nat) (ids us : List Int) (n : Nat) (ua : Nat → List Bool) : Prop :=
  ∀ t, t < m → ∀ j, j + 1 < (pos ids t n).length → ∀ q : Nat, (pos ids t n).getD j 0 < (q : Int) → (q : Int) < (pos ids t n).getD (j + 1) 0 → EndsB m us ua t (ids.getD q 0).toNat (j + 1) = true

theorem kf_ends {m : Nat} {us : List Int} {slen : Nat → Nat} {ua : Nat → List Bool} {t o k : Nat} (hk : 1 ≤ k) (hs : k + 1 ≤ slen t) : (k : Int) ∈ kf m us slen ua t o ↔ EndsB m us ua t o k = true := by
  unfold kf EndsB
  by_cases hu : us.getD (t * m + o) 0 < 0
  · rw [if_pos hu, if_pos hu]; simp
  · rw [if_neg hu, if_neg hu, kUp_mem, Bool.and_eq_true, decide_eq_true_eq]
    constructor
    · rintro ⟨j, h1, h2, h3⟩
      have : j = k - 1 := by omega
      subst this
      exact ⟨by omega, h3⟩
    · rintro ⟨h1, h2⟩
      exact ⟨k - 1, by omega, by omega, h2⟩

theorem gap_law {m n : Nat} {ids nx pv us : List Int} {ua : Nat → List Bool} (hidl : ids.length = n) (hidr : ∀ i, i < n → 0 ≤ ids.getD i 0 ∧ ids.getD i 0 < (m : Int)) (hL : ∃ lst, Links ids n m nx pv lst) :
    OkAll ids nx (Ez m us ids n ua) ↔ GapP m ids us n ua := by
  obtain ⟨lst, hL⟩ := hL
  -- consecutive positions are linked
  have hnext : ∀ (t : Int) j, j + 1 < (pos ids t n).length → ∀ p : Nat, (pos ids t n).getD j 0 = p → nx.getD p 0 = (pos ids t n).getD (j + 1) 0 := by
    intro t j hj p hp
    obtain ⟨p', a1, a2, a3⟩ := (pos_mem ids t n _).1 (getD_mem (show j < (pos ids t n).length by omega))
    have e1 : p = p' := by omega
    subst e1
    obtain ⟨q', b1, b2, b3⟩ := (pos_mem ids t n _).1 (getD_mem hj)
    have hlt := pos_lt (ids := ids) (t := t) (n := n) (show j < j + 1 by omega) hj
    rcases hL.next p a1 with ⟨_, n2⟩ | ⟨q, n1, n2, n3, n4, n5⟩
    · exact absurd (b3.trans a3.symm) (n2 q' (by omega) b1)
    · have hq : (q : Int) ∈ pos ids t n := (pos_mem ids t n q).2 ⟨q, n3, rfl, n4.trans a3⟩
      obtain ⟨i, i1, i2⟩ := mem_getD hq
      rcases Nat.lt_trichotomy i (j + 1) with h | h | h
      · exfalso
        rcases Nat.lt_or_eq_of_le (show i ≤ j by omega) with h' | h'
        · have := pos_lt (ids := ids) (t := t) (n := n) h' (by omega); omega
        · subst h'; omega
      · subst h; omega
      · exfalso
        have := pos_lt (ids := ids) (t := t) (n := n) h i1
        exact n5 q' (by omega) (by omega) (b3.trans a3.symm)
  -- who is let in behind a step that has a next
  have hEz : ∀ (t : Nat), t < m → ∀ j, j + 1 < (pos ids t n).length → ∀ p : Nat, (pos ids t n).getD j 0 = p → ∀ u : Nat, u < m → ((u : Int) ∈ Ez m us ids n ua p ↔ EndsB m us ua t u (j + 1) = true) := by
    intro t ht j hj p hp u hu
    have hpt : ids.getD p 0 = (t : Int) := by
      obtain ⟨p', a1, a2, a3⟩ := (pos_mem ids t n _).1 (getD_mem (show j < (pos ids t n).length by omega))
      have e1 : p = p' := by omega
      subst e1; exact a3
    have hsl : sl ids n t = (pos ids t n).length := rfl
    rw [← kf_ends (m := m) (us := us) (slen := sl ids n) (ua := ua) (t := t) (o := u) (k := j + 1) (by omega) (by rw [hsl]; omega)]
    unfold Ez
    rw [Eof_mem, evT_mem]
    constructor
    · rintro ⟨t', ht', h⟩
      obtain ⟨i, hi, h⟩ := evI_mem.1 h
      obtain ⟨k, hk, h1, h2⟩ := evK_mem.1 h
      have hr := kf_rng (m := m) (us := us) (slen := sl ids n) (ua := ua) t' _ k hk
      have hsl' : sl ids n t' = (pos ids t' n).length := rfl
      rw [hsl'] at hr
      have hpm : (p : Int) ∈ pos ids t' n := by rw [h1]; exact getD_mem (by show (k - 1).toNat < (pos ids t' n).length; omega)
      obtain ⟨p', a1, a2, a3⟩ := (pos_mem ids t' n _).1 hpm
      have : p = p' := by omega
      subst this
      have : t = t' := by omega
      subst this
      have hj' := getD_inj (pos_nodup ids t n) (show j < (pos ids t n).length by omega) (show (k - 1).toNat < (pos ids t n).length by omega) (hp.trans h1)
      have hkk : k = ((j + 1 : Nat) : Int) := by omega
      rw [← hkk]
      have : ((Os m us ids n ua t).getD i 0).toNat = u := by rw [← h2]; simp
      unfold Ks at hk
      rw [this] at hk
      exact hk
    · intro hk
      have hne : kf m us (sl ids n) ua t u ≠ [] := fun e => by rw [e] at hk; simp at hk
      have hmem : (u : Int) ∈ Os m us ids n ua t := (obsL_mem t m u).2 ⟨u, hu, rfl, hne⟩
      obtain ⟨i, i1, i2⟩ := mem_getD hmem
      refine ⟨t, ht, evI_mem.2 ⟨i, i1, evK_mem.2 ⟨((j + 1 : Nat) : Int), ?_, ?_, i2.symm⟩⟩⟩
      · unfold Ks; rw [i2, Int.toNat_natCast]; exact hk
      · rw [show (((j + 1 : Nat) : Int) - 1).toNat = j by omega]; exact hp.symm
  constructor
  · intro hok t ht j hj q hq1 hq2
    obtain ⟨p, a1, a2, a3⟩ := (pos_mem ids t n _).1 (getD_mem (show j < (pos ids t n).length by omega))
    obtain ⟨p', b1, b2, b3⟩ := (pos_mem ids t n _).1 (getD_mem hj)
    have hn := hnext t j hj p a2
    have hqr := hidr q (by omega)
    have h := hok q (by omega) p (by omega) (by omega)
    rw [show ids.getD q 0 = (((ids.getD q 0).toNat : Nat) : Int) by omega] at h
    exact (hEz t ht j hj p a2 _ (by omega)).1 h
  · intro hg i hi p hp hn
    have hpn : p < n := by omega
    have hpr := hidr p hpn
    obtain ⟨t, ht⟩ : ∃ t : Nat, ids.getD p 0 = t := ⟨(ids.getD p 0).toNat, by omega⟩
    have htm : t < m := by omega
    obtain ⟨j, j1, j2⟩ := mem_getD ((pos_mem ids t n p).2 ⟨p, hpn, rfl, ht⟩)
    rcases hL.next p hpn with ⟨n1, _⟩ | ⟨q, n1, n2, n3, n4, n5⟩
    · omega
    · obtain ⟨j', k1, k2⟩ := mem_getD ((pos_mem ids t n q).2 ⟨q, n3, rfl, n4.trans ht⟩)
      have hjj : j < j' := by
        rcases Nat.lt_trichotomy j j' with h | h | h
        · exact h
        · subst h; omega
        · have := pos_lt (ids := ids) (t := t) (n := n) h j1; omega
      have hj1 : j + 1 < (pos ids t n).length := by omega
      have hnx := hnext t j hj1 p j2
      have hir := hidr i (by omega)
      have := hg t htm j hj1 i (by omega) (by omega)
      rw [show ids.getD i 0 = (((ids.getD i 0).toNat : Nat) : Int) by omega]
      exact (hEz t htm j hj1 p j2 _ (by omega)).2 this

end Go.Proofs.Qxb6602514a
