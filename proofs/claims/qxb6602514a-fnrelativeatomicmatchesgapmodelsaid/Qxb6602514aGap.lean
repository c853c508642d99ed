/-
  PLAIN: the count of the open gaps, and of those that let an observer in. Nothing of the program in it.
-/
import Derived.Test.Qxb6602514aRel
namespace Go.Proofs.Qxb6602514a

/-- How often u stands among the observers. -/
def cnt (os : List Int) (u : Nat) : Int := (os.filter (fun o => o == (u : Int))).length

theorem cnt_nonneg (os : List Int) (u : Nat) : 0 ≤ cnt os u := by unfold cnt; omega
theorem cnt_le (os : List Int) (u : Nat) : cnt os u ≤ os.length := by unfold cnt; have := List.length_filter_le (fun o => o == (u : Int)) os; omega
theorem cnt_pos (os : List Int) (u : Nat) : 0 < cnt os u ↔ (u : Int) ∈ os := by
  unfold cnt
  constructor
  · intro h
    have h' : 0 < (os.filter (fun o => o == (u : Int))).length := by omega
    obtain ⟨x, hx⟩ := List.exists_mem_of_length_pos h'
    rw [List.mem_filter] at hx
    have := hx.2
    simp at this
    rw [← this]; exact hx.1
  · intro h
    have : (u : Int) ∈ os.filter (fun o => o == (u : Int)) := by rw [List.mem_filter]; exact ⟨h, by simp⟩
    have := List.length_pos_of_mem this
    omega
theorem cnt_append (a b : List Int) (u : Nat) : cnt (a ++ b) u = cnt a u + cnt b u := by unfold cnt; rw [List.filter_append, List.length_append]; omega

/-- Of the first b steps: how many have their next at c or behind. -/
def cntG (nx : List Int) (c : Int) : Nat → Int
  | 0 => 0
  | b + 1 => cntG nx c b + if c ≤ nx.getD b 0 then 1 else 0
/-- .. and of those, how often they let u in. -/
def sumG (nx : List Int) (E : Nat → List Int) (u : Nat) (c : Int) : Nat → Int
  | 0 => 0
  | b + 1 => sumG nx E u c b + if c ≤ nx.getD b 0 then cnt (E b) u else 0

theorem cntG_bd (nx : List Int) (c : Int) (b : Nat) : 0 ≤ cntG nx c b ∧ cntG nx c b ≤ b := by
  induction b with
  | zero => simp [cntG]
  | succ b ih => simp only [cntG]; split <;> omega
theorem sumG_bd (nx : List Int) (E : Nat → List Int) (u : Nat) (c : Int) (b : Nat) (h1 : ∀ j, j < b → cnt (E j) u ≤ 1) : 0 ≤ sumG nx E u c b ∧ sumG nx E u c b ≤ cntG nx c b := by
  induction b with
  | zero => simp [cntG, sumG]
  | succ b ih =>
    have := ih (fun j hj => h1 j (by omega))
    have h2 := h1 b (by omega)
    have h3 := cnt_nonneg (E b) u
    simp only [cntG, sumG]; split <;> omega

theorem G_none (nx : List Int) (E : Nat → List Int) (u : Nat) (c : Int) (b : Nat) (h : ∀ j, j < b → nx.getD j 0 ≠ c) : cntG nx c b = cntG nx (c + 1) b ∧ sumG nx E u c b = sumG nx E u (c + 1) b := by
  induction b with
  | zero => exact ⟨rfl, rfl⟩
  | succ b ih =>
    have := ih (fun j hj => h j (by omega))
    have hb := h b (by omega)
    simp only [cntG, sumG]
    by_cases hc : c ≤ nx.getD b 0
    · rw [if_pos hc, if_pos hc, if_pos (by omega), if_pos (by omega)]; omega
    · rw [if_neg hc, if_neg hc, if_neg (by omega), if_neg (by omega)]; omega
theorem G_one (nx : List Int) (E : Nat → List Int) (u : Nat) (c : Int) (j0 : Nat) (b : Nat) (hj : j0 < b) (h0 : nx.getD j0 0 = c) (h : ∀ j, j < b → nx.getD j 0 = c → j = j0) :
    cntG nx c b = cntG nx (c + 1) b + 1 ∧ sumG nx E u c b = sumG nx E u (c + 1) b + cnt (E j0) u := by
  induction b with
  | zero => omega
  | succ b ih =>
    simp only [cntG, sumG]
    by_cases e : j0 = b
    · subst e
      have := G_none nx E u c j0 (fun j hj' hc => by have := h j (by omega) hc; omega)
      have hc1 : c ≤ nx.getD j0 0 := by omega
      have hc2 : ¬ c + 1 ≤ nx.getD j0 0 := by omega
      simp only [hc1, hc2, if_true, if_false]; omega
    · have := ih (by omega) (fun j hj' hc => h j (by omega) hc)
      have hb : nx.getD b 0 ≠ c := fun hc => e (h b (by omega) hc).symm
      by_cases hc : c ≤ nx.getD b 0
      · rw [if_pos hc, if_pos hc, if_pos (by omega), if_pos (by omega)]; omega
      · rw [if_neg hc, if_neg hc, if_neg (by omega), if_neg (by omega)]; omega

/-- Every open gap admits u exactly when the two counts agree. -/
theorem G_check (nx : List Int) (E : Nat → List Int) (u : Nat) (c : Int) (b : Nat) (h1 : ∀ j, j < b → cnt (E j) u ≤ 1) :
    sumG nx E u c b < cntG nx c b ↔ ¬ ∀ j, j < b → c ≤ nx.getD j 0 → (u : Int) ∈ E j := by
  induction b with
  | zero => simp [cntG, sumG]
  | succ b ih =>
    have ih' := ih (fun j hj => h1 j (by omega))
    have bd := sumG_bd nx E u c b (fun j hj => h1 j (by omega))
    have hb1 := h1 b (by omega)
    have hb0 := cnt_nonneg (E b) u
    have hp := cnt_pos (E b) u
    simp only [cntG, sumG]
    by_cases hc : c ≤ nx.getD b 0
    · rw [if_pos hc, if_pos hc]
      by_cases hm : (u : Int) ∈ E b
      · have : 0 < cnt (E b) u := hp.2 hm
        constructor
        · intro hlt hall
          exact ih'.1 (by omega) (fun j hj hcj => hall j (by omega) hcj)
        · intro hn
          have : sumG nx E u c b < cntG nx c b := by
            refine ih'.2 (fun hall => hn fun j hj hcj => ?_)
            by_cases e : j = b
            · subst e; exact hm
            · exact hall j (by omega) hcj
          omega
      · have : ¬ 0 < cnt (E b) u := fun h => hm (hp.1 h)
        constructor
        · intro _ hall; exact hm (hall b (by omega) hc)
        · intro _; omega
    · rw [if_neg hc, if_neg hc]
      constructor
      · intro hlt hall
        exact ih'.1 (by omega) (fun j hj hcj => hall j (by omega) hcj)
      · intro hn
        have : sumG nx E u c b < cntG nx c b := by
          refine ih'.2 (fun hall => hn fun j hj hcj => ?_)
          by_cases e : j = b
          · subst e; exact absurd hcj hc
          · exact hall j (by omega) hcj
        omega

/-- Links, read the other way: i's previous step is j exactly when j's next is i. -/
theorem Links.prev_next {ids nx pv lst : List Int} {m : Nat} (h : Links ids ids.length m nx pv lst) {i : Nat} (hi : i < ids.length) :
    (pv.getD i 0 = -1 ∧ ∀ j, j < i → nx.getD j 0 ≠ i) ∨ (∃ j0 : Nat, pv.getD i 0 = j0 ∧ j0 < i ∧ nx.getD j0 0 = i ∧ ∀ j, j < i → nx.getD j 0 = i → j = j0) := by
  have hp := h.prev i hi
  rcases lastB_spec ids (ids.getD i 0) i with ⟨h1, h2⟩ | ⟨q, h1, h2, h3, h4⟩
  · refine .inl ⟨by omega, fun j hj hn => ?_⟩
    rcases h.next j (by omega) with ⟨n1, _⟩ | ⟨q, n1, n2, n3, n4, n5⟩
    · omega
    · have : q = i := by omega
      subst this
      exact h2 j hj n4.symm
  · refine .inr ⟨q, by omega, h2, ?_, ?_⟩
    · rcases h.next q (by omega) with ⟨_, n2⟩ | ⟨q', n1, n2, n3, n4, n5⟩
      · exact absurd h3.symm (n2 i h2 hi)
      · rcases Nat.lt_trichotomy q' i with hlt | heq | hgt
        · exact absurd (n4.trans h3) (h4 q' n2 hlt)
        · omega
        · exact absurd h3.symm (n5 i h2 hgt)
    · intro j hj hn
      rcases h.next j (by omega) with ⟨n1, _⟩ | ⟨q', n1, n2, n3, n4, n5⟩
      · omega
      · have : q' = i := by omega
        subst this
        rcases Nat.lt_trichotomy j q with hlt | heq | hgt
        · exact absurd (h3.trans n4) (n5 q hlt h2)
        · exact heq
        · exact absurd n4.symm (h4 j hgt hj)

theorem Links.next_pos {ids nx pv lst : List Int} {m : Nat} (h : Links ids ids.length m nx pv lst) {i : Nat} (hi : i < ids.length) : 0 ≤ nx.getD i 0 ↔ (i : Int) + 1 ≤ nx.getD i 0 := by
  rcases h.next i hi with ⟨n1, _⟩ | ⟨q, n1, n2, _⟩ <;> omega

/-- What atomic says, step by step and of all. -/
def OkAt (ids nx : List Int) (E : Nat → List Int) (i : Nat) : Prop := ∀ j, j < i → (i : Int) + 1 ≤ nx.getD j 0 → ids.getD i 0 ∈ E j
def OkAll (ids nx : List Int) (E : Nat → List Int) : Prop := ∀ i, i < ids.length → OkAt ids nx E i

/-! ### The events: (step, observer), in the order in which the loops come to them. -/
section
variable (f os : Nat → List Int) (ks : Nat → Nat → List Int)
def evK (t i j : Nat) : List (Int × Int) := ((ks t i).take j).map (fun k => ((f t).getD (k - 1).toNat 0, (os t).getD i 0))
def evI (t : Nat) : Nat → List (Int × Int)
  | 0 => []
  | i + 1 => evI t i ++ evK f os ks t i (ks t i).length
def evT : Nat → List (Int × Int)
  | 0 => []
  | t + 1 => evT t ++ evI f os ks t (os t).length
end
def Eof (ev : List (Int × Int)) (p : Nat) : List Int := (ev.filter (fun x => x.1 == (p : Int))).map (·.2)

theorem Eof_snoc (ev : List (Int × Int)) (p o : Int) (q : Nat) : Eof (ev ++ [(p, o)]) q = if p = q then Eof ev q ++ [o] else Eof ev q := by
  unfold Eof
  rw [List.filter_append, List.map_append]
  by_cases h : p = (q : Int)
  · rw [if_pos h, List.filter_cons, if_pos (by simpa using h)]; rfl
  · rw [if_neg h, List.filter_cons, if_neg (by simpa using h)]; simp
theorem Eof_append (a b : List (Int × Int)) (p : Nat) : Eof (a ++ b) p = Eof a p ++ Eof b p := by unfold Eof; rw [List.filter_append, List.map_append]
theorem Eof_mem (ev : List (Int × Int)) (p : Nat) (o : Int) : o ∈ Eof ev p ↔ ((p : Int), o) ∈ ev := by
  unfold Eof
  rw [List.mem_map]
  constructor
  · rintro ⟨⟨a, b⟩, h1, rfl⟩
    rw [List.mem_filter] at h1
    have := h1.2
    simp at this
    subst this; exact h1.1
  · intro h
    exact ⟨_, List.mem_filter.2 ⟨h, by simp⟩, rfl⟩

section
variable {f os : Nat → List Int} {ks : Nat → Nat → List Int}
theorem evK_succ {t i j : Nat} (h : j < (ks t i).length) : evK f os ks t i (j + 1) = evK f os ks t i j ++ [((f t).getD (((ks t i).getD j 0) - 1).toNat 0, (os t).getD i 0)] := by
  unfold evK
  rw [List.take_succ_eq_append_getElem h, List.map_append]
  simp [List.getD, h]
theorem evT_prefix {t m : Nat} (h : t ≤ m) : evT f os ks t <+: evT f os ks m := by
  induction m with
  | zero => have : t = 0 := by omega
            subst this; exact List.prefix_refl _
  | succ m ih =>
    by_cases e : t = m + 1
    · subst e; exact List.prefix_refl _
    · exact (ih (by omega)).trans (by simp only [evT]; exact List.prefix_append _ _)
theorem evI_prefix {t i L : Nat} (h : i ≤ L) : evI f os ks t i <+: evI f os ks t L := by
  induction L with
  | zero => have : i = 0 := by omega
            subst this; exact List.prefix_refl _
  | succ m ih =>
    by_cases e : i = m + 1
    · subst e; exact List.prefix_refl _
    · exact (ih (by omega)).trans (by simp only [evI]; exact List.prefix_append _ _)
theorem ev_prefix {m t i j : Nat} (ht : t < m) (hi : i < (os t).length) : evT f os ks t ++ evI f os ks t i ++ evK f os ks t i j <+: evT f os ks m := by
  have h1 : evK f os ks t i j <+: evK f os ks t i (ks t i).length := by
    unfold evK
    rw [List.take_length]
    exact List.IsPrefix.map _ (List.take_prefix _ _)
  have h2 : evI f os ks t i ++ evK f os ks t i j <+: evI f os ks t (i + 1) := by
    simp only [evI]
    exact (List.prefix_append_right_inj _).2 h1
  have h3 := h2.trans (evI_prefix (f := f) (os := os) (ks := ks) (t := t) (show i + 1 ≤ (os t).length by omega))
  have h4 : evT f os ks t ++ (evI f os ks t i ++ evK f os ks t i j) <+: evT f os ks (t + 1) := by
    simp only [evT]
    exact (List.prefix_append_right_inj _).2 h3
  rw [List.append_assoc]
  exact h4.trans (evT_prefix (by omega))
theorem Eof_prefix {a b : List (Int × Int)} (h : a <+: b) (p : Nat) : (Eof a p).length ≤ (Eof b p).length := by
  obtain ⟨c, rfl⟩ := h
  rw [Eof_append, List.length_append]; omega
end

end Go.Proofs.Qxb6602514a
