import Derived.Test.Qxb6605260aA
set_option linter.unusedVariables false
namespace Go.Proofs.Qxb6605260a
open Go.RowKit

theorem sel_at {I : Nat → Int} {V : Nat → Bool} {v : Bool} {k n : Nat} (hk : k < n) (hv : V k = v) :
    (sel I V v k).length < (sel I V v n).length ∧ (sel I V v n).getD (sel I V v k).length 0 = I k := by
  induction n with
  | zero => omega
  | succ n ih =>
    by_cases e : k = n
    · subst e
      simp only [sel]
      rw [if_pos hv]
      simp [List.getD]
    · obtain ⟨h1, h2⟩ := ih (by omega)
      simp only [sel]
      split
      · refine ⟨by simp; omega, ?_⟩
        rw [← h2]
        simp [List.getD, List.getElem?_append_left h1]
      · exact ⟨h1, h2⟩

theorem sel_mono {I : Nat → Int} {V : Nat → Bool} {v : Bool} {k n : Nat} (hk : k ≤ n) : (sel I V v k).length ≤ (sel I V v n).length := by
  induction n with
  | zero => have : k = 0 := by omega
            subst this; exact Nat.le_refl _
  | succ n ih =>
    by_cases e : k = n + 1
    · subst e; exact Nat.le_refl _
    · have := ih (by omega)
      simp only [sel]
      split
      · simp; omega
      · exact this

/-- The next of the other kind, if there is one, comes later. -/
theorem sel_later {I : Nat → Int} {V : Nat → Bool} {v : Bool} {n : Nat} : ∀ d k, k + d = n → (sel I V v k).length < (sel I V v n).length → ∃ k', k ≤ k' ∧ k' < n ∧ V k' = v ∧ (sel I V v n).getD (sel I V v k).length 0 = I k' := by
  intro d
  induction d with
  | zero => intro k h1 h2; have : k = n := by omega
            subst this; omega
  | succ d ih =>
    intro k h1 h2
    by_cases hv : V k = v
    · exact ⟨k, Nat.le_refl _, by omega, hv, (sel_at (by omega) hv).2⟩
    · have e : sel I V v (k + 1) = sel I V v k := by simp only [sel]; rw [if_neg hv]
      obtain ⟨k', p1, p2, p3, p4⟩ := ih (k + 1) (by omega) (by rw [e]; exact h2)
      rw [e] at p4
      exact ⟨k', by omega, p2, p3, p4⟩

/-- The ids ascend. -/
def Asc (I : Nat → Int) (n : Nat) : Prop := ∀ k, k + 1 < n → I k < I (k + 1)

theorem Asc.lt {I : Nat → Int} {n : Nat} (h : Asc I n) : ∀ d k, k + d + 1 < n → I k < I (k + d + 1) := by
  intro d
  induction d with
  | zero => intro k hk; exact h k hk
  | succ d ih =>
    intro k hk
    have h1 := ih k (by omega)
    have h2 := h (k + d + 1) (by omega)
    have e : k + (d + 1) + 1 = k + d + 1 + 1 := by omega
    rw [e]; omega

theorem Asc.lt' {I : Nat → Int} {n j k : Nat} (h : Asc I n) (h1 : j < k) (h2 : k < n) : I j < I k := by
  have := h.lt (k - j - 1) j (by omega)
  rwa [show j + (k - j - 1) + 1 = k by omega] at this

/-- At member k, whose vote is v: the head of v's list is its id; the other list's head, if any, is greater. -/
theorem heads {I : Nat → Int} {V : Nat → Bool} {n k : Nat} {v : Bool} (ha : Asc I n) (hk : k < n) (hv : V k = v) :
    ((sel I V v k).length < (sel I V v n).length ∧ (sel I V v n).getD (sel I V v k).length 0 = I k) ∧
    ((sel I V (!v) k).length < (sel I V (!v) n).length → I k < (sel I V (!v) n).getD (sel I V (!v) k).length 0) := by
  refine ⟨sel_at hk hv, fun hl => ?_⟩
  obtain ⟨k', h1, h2, h3, h4⟩ := sel_later (n - k) k (by omega) hl
  rw [h4]
  refine ha.lt' ?_ h2
  rcases Nat.lt_or_ge k k' with h | h
  · exact h
  · have : k' = k := by omega
    subst this
    rw [hv] at h3
    cases v <;> cases h3

theorem sel_step {I : Nat → Int} {V : Nat → Bool} {k : Nat} {v : Bool} (hv : V k = v) : sel I V v (k + 1) = sel I V v k ++ [I k] ∧ sel I V (!v) (k + 1) = sel I V (!v) k := by
  constructor
  · simp only [sel]; rw [if_pos hv]
  · simp only [sel]; rw [if_neg (by rw [hv]; cases v <;> simp)]

set_option maxRecDepth 100000 in
set_option maxHeartbeats 4000000 in
theorem law_3 (cfg : Int) (a : Option Addr) (n c b off : Nat) (I : Nat → Int) (S : Nat → ByteArray) (V : Nat → Bool) (w : World) (m0 : n ≤ maxLen) (h : NIn w a n c b off I S V) :
    Calls Try.prog 3 #[.int .u64 cfg, .slice a n c] w fun e w' => e = .returned (.bool true) ∧ Below w.heap.size w w' := by
  go_enter Try.func3, Try.ntmps3
  go_wp2_with fail
  refine (bytes_any cfg a n c b off I S V w m0 h).mono ?_
  rintro e w' ⟨⟨r, rfl, hr⟩, rfl⟩
  cases r with
  | false =>
    go_wp2
    go_ret
    exact ⟨rfl, Below.refl _ _⟩
  | true =>
  obtain ⟨hn, hss⟩ := hr rfl
  have HSS : Hid (∀ i, i < n → (S i).size ≤ 1048576) := hss
  clear hr hss
  by_cases hn1 : n ≤ 65536
  · go_wp2
    go_loop [5, 6] (fun s i => ∃ k x : Nat, k ≤ n ∧ i = .int .i64 k ∧ s = .int .i64 x ∧ x ≤ 1048576) (fun _ i => n - (intOf i).toNat)
    case atStart => exact ⟨0, 0, Nat.zero_le _, rfl, rfl, by omega⟩
    case round =>
      obtain ⟨k, x, hk, rfl, rfl, hx⟩ := hrel
      by_cases hlt : k < n
      · obtain rfl := h.at' (by omega)
        have g1 := h.ad k hlt
        have hm := HSS.out k hlt
        obtain ⟨s, hs⟩ : ∃ s, S k = s := ⟨_, rfl⟩
        rw [hs] at g1 hm
        clear hs
        by_cases p3 : x + (32 + s.size) ≤ 1048576
        · go_wp2
          go_round
          case rel => exact ⟨k + 1, x + (32 + s.size), by omega, by go_num, by go_num, by omega⟩
          case measure => simp [intOf]; omega
        · go_wp2
          go_ret
          exact ⟨rfl, Below.refl _ _⟩
      · go_wp2
        go_loopw [7] (fun i wr => ∃ q : Nat, (q + 1 ≤ n ∨ q = 0) ∧ i = .int .i64 ((q : Int) + 1) ∧ Below w'.heap.size w' wr ∧ Asc I (q + 1)) (fun i _ => n + 1 - (intOf i).toNat)
        case atStart => exact ⟨0, .inr rfl, rfl, Below.refl _ _, fun k hk => by omega⟩
        case round =>
          clear hx hk hlt
          obtain ⟨q, hq, rfl, hbr, hasc⟩ := hrel
          by_cases hlt : q + 1 < n
          · obtain rfl := h.at' (by omega)
            have g0 := cellOf (h.id q (by omega)) hbr
            have g1 := cellOf (h.id (q + 1) hlt) hbr
            have j0 : (0 : Int) ≤ (q : Int) := by omega
            have j1 : (q : Int) < (n : Int) := by omega
            have j2 : (q : Int) + 1 < (n : Int) := by omega
            have j3 : (0 : Int) ≤ (q : Int) + 1 := by omega
            by_cases hI : I q < I (q + 1)
            · go_upto_region 15 with fail
              go_quiet (fail)
              go_wp2
              go_roundw
              case rel =>
                refine ⟨q + 1, .inl (by omega), by go_num, below_drewN hbr _, fun k hk => ?_⟩
                by_cases e : k = q
                · subst e; exact hI
                · exact hasc k (by omega)
              case measure => simp [intOf]; omega
            · go_upto_region 15 with fail
              go_quiet (fail)
              go_wp2
              go_ret
              exact ⟨rfl, below_drewN hbr _⟩
          · have hA : Asc I n := fun k hk => hasc k (by omega)
            have hr := h.below hbr
            clear h hasc
            go_wp2_with fail
            refine (clone_any a n c b off I S V wr hn hr).mono ?_
            rintro e w1 ⟨a1, b1, rfl, h1, hb1⟩
            go_wp2_with fail
            refine (toMem_any cfg a1 n n b1 0 I S V w1 hn h1).mono ?_
            rintro e w2 ⟨a2, b2, rfl, h2, hb2⟩
            have hrM := Row.alloc_new w2 30 #[.int .u64 cfg, .slice a2 n n]
            have d0 : (w2.alloc (.cells #[.int .u64 cfg, .slice a2 n n] 30)).cell? ⟨w2.heap.size, 0, none⟩ = some (.int .u64 cfg) := hrM.cell 0
            have d1 : (w2.alloc (.cells #[.int .u64 cfg, .slice a2 n n] 30)).cell? ⟨w2.heap.size, 1, none⟩ = some (.slice a2 n n) := hrM.cell 1
            have hb3 : Below w2.heap.size w2 (w2.alloc (.cells #[.int .u64 cfg, .slice a2 n n] 30)) := (Below.refl _ _).alloc (Nat.le_refl _) _
            go_wp2_with fail
            refine (ids_any cfg true a2 n n b2 0 I S V _ hn (h2.below hb3)).mono ?_
            rintro e w4 ⟨gv, cv, rfl, hv, hb4⟩
            have e0 := cellOf d0 hb4
            have e1 := cellOf d1 hb4
            go_wp2_with fail
            refine (ids_any cfg false a2 n n b2 0 I S V _ hn ((h2.below hb3).below hb4)).mono ?_
            rintro e w5 ⟨go, co, rfl, ho, hb5⟩
            have hv5 : ∀ j, j < (sel I V true n).length → w5.cell? ⟨gv, j, none⟩ = some (.int .u64 ((sel I V true n).getD j 0)) := fun j hj => cellOf (hv j hj) hb5
            have h15 : NIn w5 a1 n n b1 0 I S V := (((h1.below hb2).below hb3).below hb4).below hb5
            have hb05 : Below w'.heap.size w' w5 := hbr.trans ((hb1.trans ((hb2.trans ((hb3.trans ((hb4.trans (hb5.mono hb4.size)).mono hb3.size)).mono hb2.size)).mono hb1.size)).mono hbr.size)
            clear hv hrM d0 d1 e0 e1 hb1 hb2 hb3 hb4 hb5 h1 h2 hr hbr
            have he1 := fun (wx : World) (x : Addr) (l c : Nat) => Lib.run_eql_slice_nil (P := Try.prog) wx 32 22 (some x) l c 0 0 Try.underlying32
            have hlt1 := sel_len I V true n
            have hlt2 := sel_len I V false n
            go_wp2
            go_loopw [11, 12, 13] (fun i j k wr => ∃ q : Nat, q ≤ n ∧ k = .int .i64 q ∧ i = .int .i64 ((sel I V true q).length : Nat) ∧ j = .int .i64 ((sel I V false q).length : Nat) ∧ Below w5.heap.size w5 wr) (fun _ _ k _ => n - (intOf k).toNat)
            case atStart => exact ⟨0, Nat.zero_le _, rfl, rfl, rfl, Below.refl _ _⟩
            case round =>
              obtain ⟨q, hq, rfl, rfl, rfl, hbr⟩ := hrel
              by_cases hlt : q < n
              · obtain rfl := h15.at' (by omega)
                have gI : wr.cell? ⟨b1, q * 3, none⟩ = some (.int .u64 (I q)) := by simpa using cellOf (h15.id q hlt) hbr
                have gV : wr.cell? ⟨b1, q * 3 + 2, none⟩ = some (.bool (V q)) := by simpa using cellOf (h15.vo q hlt) hbr
                cases hvq : V q with
                | false =>
                  obtain ⟨⟨k1, k2⟩, k3⟩ := heads hA hlt hvq
                  obtain ⟨s1, s2⟩ := sel_step (I := I) hvq
                  have gO := cellOf (ho _ k1) hbr
                  rw [k2] at gO
                  rw [hvq] at gV
                  have hS : Hid (sel I V false (q + 1) = sel I V false q ++ [I q] ∧ sel I V true (q + 1) = sel I V true q) := ⟨s1, s2⟩
                  by_cases hoth : (sel I V true q).length < (sel I V true n).length
                  · have gT := cellOf (hv5 _ hoth) hbr
                    have k4 := k3 hoth
                    simp only [Bool.not_false] at k4
                    clear s1 s2 k2 k3 hvq
                    obtain ⟨x, hx⟩ : ∃ x, (sel I V true n).getD (sel I V true q).length 0 = x := ⟨_, rfl⟩
                    rw [hx] at gT k4
                    clear hx
                    obtain ⟨y, hy⟩ : ∃ y, I q = y := ⟨_, rfl⟩
                    rw [hy] at gO gI k4
                    obtain ⟨p, hp⟩ : ∃ p, (sel I V true q).length = p := ⟨_, rfl⟩
                    obtain ⟨P, hP⟩ : ∃ P, (sel I V true n).length = P := ⟨_, rfl⟩
                    obtain ⟨r, hr⟩ : ∃ r, (sel I V false q).length = r := ⟨_, rfl⟩
                    obtain ⟨R, hR⟩ : ∃ R, (sel I V false n).length = R := ⟨_, rfl⟩
                    have HP : Hid ((sel I V true q).length = p ∧ (sel I V true n).length = P ∧ (sel I V false q).length = r ∧ (sel I V false n).length = R ∧ I q = y) := ⟨hp, hP, hr, hR, hy⟩
                    rw [hr, hR] at k1
                    rw [hp, hP] at hoth
                    rw [hr] at gO
                    rw [hp] at gT
                    rw [hP] at hlt1
                    rw [hR] at hlt2
                    rw [hp, hP, hr, hR]
                    clear hp hP hr hR hy
                    have l0 : (0 : Int) ≤ (p : Int) := by omega
                    have l1 : (p : Int) < (P : Int) := by omega
                    have l2 : (0 : Int) ≤ (r : Int) := by omega
                    have l3 : (r : Int) < (R : Int) := by omega
                    go_upto_region 29 with fail
                    go_quiet (fail)
                    go_upto_region 31 with fail
                    go_quiet (fail)
                    go_wp2
                    go_roundw
                    case rel =>
                      refine ⟨q + 1, by omega, by go_num, ?_, ?_, below_drewN hbr _⟩
                      · rw [hS.out.2, HP.out.1]
                      · rw [hS.out.1]; simp [HP.out.2.2.1]
                    case measure => simp [intOf]; omega
                  · have gT : True := trivial
                    clear s1 s2 k2 k3 hvq
                    obtain ⟨y, hy⟩ : ∃ y, I q = y := ⟨_, rfl⟩
                    rw [hy] at gO gI
                    obtain ⟨p, hp⟩ : ∃ p, (sel I V true q).length = p := ⟨_, rfl⟩
                    obtain ⟨P, hP⟩ : ∃ P, (sel I V true n).length = P := ⟨_, rfl⟩
                    obtain ⟨r, hr⟩ : ∃ r, (sel I V false q).length = r := ⟨_, rfl⟩
                    obtain ⟨R, hR⟩ : ∃ R, (sel I V false n).length = R := ⟨_, rfl⟩
                    have HP : Hid ((sel I V true q).length = p ∧ (sel I V true n).length = P ∧ (sel I V false q).length = r ∧ (sel I V false n).length = R ∧ I q = y) := ⟨hp, hP, hr, hR, hy⟩
                    rw [hr, hR] at k1
                    rw [hp, hP] at hoth
                    rw [hr] at gO
                    rw [hP] at hlt1
                    rw [hR] at hlt2
                    rw [hp, hP, hr, hR]
                    clear hp hP hr hR hy
                    go_wp2
                    go_roundw
                    case rel =>
                      refine ⟨q + 1, by omega, by go_num, ?_, ?_, hbr⟩
                      · rw [hS.out.2, HP.out.1]
                      · rw [hS.out.1]; simp [HP.out.2.2.1]
                    case measure => simp [intOf]; omega
                | true =>
                  obtain ⟨⟨k1, k2⟩, k3⟩ := heads hA hlt hvq
                  obtain ⟨s1, s2⟩ := sel_step (I := I) hvq
                  have gO := cellOf (hv5 _ k1) hbr
                  rw [k2] at gO
                  rw [hvq] at gV
                  have hS : Hid (sel I V true (q + 1) = sel I V true q ++ [I q] ∧ sel I V false (q + 1) = sel I V false q) := ⟨s1, s2⟩
                  by_cases hoth : (sel I V false q).length < (sel I V false n).length
                  · have gT := cellOf (ho _ hoth) hbr
                    have k4 := k3 hoth
                    simp only [Bool.not_true] at k4
                    clear s1 s2 k2 k3 hvq
                    obtain ⟨x, hx⟩ : ∃ x, (sel I V false n).getD (sel I V false q).length 0 = x := ⟨_, rfl⟩
                    rw [hx] at gT k4
                    clear hx
                    obtain ⟨y, hy⟩ : ∃ y, I q = y := ⟨_, rfl⟩
                    rw [hy] at gO gI k4
                    obtain ⟨p, hp⟩ : ∃ p, (sel I V true q).length = p := ⟨_, rfl⟩
                    obtain ⟨P, hP⟩ : ∃ P, (sel I V true n).length = P := ⟨_, rfl⟩
                    obtain ⟨r, hr⟩ : ∃ r, (sel I V false q).length = r := ⟨_, rfl⟩
                    obtain ⟨R, hR⟩ : ∃ R, (sel I V false n).length = R := ⟨_, rfl⟩
                    have HP : Hid ((sel I V true q).length = p ∧ (sel I V true n).length = P ∧ (sel I V false q).length = r ∧ (sel I V false n).length = R ∧ I q = y) := ⟨hp, hP, hr, hR, hy⟩
                    rw [hp, hP] at k1
                    rw [hr, hR] at hoth
                    rw [hp] at gO
                    rw [hr] at gT
                    rw [hP] at hlt1
                    rw [hR] at hlt2
                    rw [hp, hP, hr, hR]
                    clear hp hP hr hR hy
                    have l0 : (0 : Int) ≤ (p : Int) := by omega
                    have l1 : (p : Int) < (P : Int) := by omega
                    have l2 : (0 : Int) ≤ (r : Int) := by omega
                    have l3 : (r : Int) < (R : Int) := by omega
                    go_upto_region 29 with fail
                    go_quiet (fail)
                    go_upto_region 31 with fail
                    go_quiet (fail)
                    go_wp2
                    go_roundw
                    case rel =>
                      refine ⟨q + 1, by omega, by go_num, ?_, ?_, below_drewN hbr _⟩
                      · rw [hS.out.1]; simp [HP.out.1]
                      · rw [hS.out.2, HP.out.2.2.1]
                    case measure => simp [intOf]; omega
                  · have gT : True := trivial
                    clear s1 s2 k2 k3 hvq
                    obtain ⟨y, hy⟩ : ∃ y, I q = y := ⟨_, rfl⟩
                    rw [hy] at gO gI
                    obtain ⟨p, hp⟩ : ∃ p, (sel I V true q).length = p := ⟨_, rfl⟩
                    obtain ⟨P, hP⟩ : ∃ P, (sel I V true n).length = P := ⟨_, rfl⟩
                    obtain ⟨r, hr⟩ : ∃ r, (sel I V false q).length = r := ⟨_, rfl⟩
                    obtain ⟨R, hR⟩ : ∃ R, (sel I V false n).length = R := ⟨_, rfl⟩
                    have HP : Hid ((sel I V true q).length = p ∧ (sel I V true n).length = P ∧ (sel I V false q).length = r ∧ (sel I V false n).length = R ∧ I q = y) := ⟨hp, hP, hr, hR, hy⟩
                    rw [hp, hP] at k1
                    rw [hr, hR] at hoth
                    rw [hp] at gO
                    rw [hP] at hlt1
                    rw [hR] at hlt2
                    rw [hp, hP, hr, hR]
                    clear hp hP hr hR hy
                    go_wp2
                    go_roundw
                    case rel =>
                      refine ⟨q + 1, by omega, by go_num, ?_, ?_, hbr⟩
                      · rw [hS.out.1]; simp [HP.out.1]
                      · rw [hS.out.2, HP.out.2.2.1]
                    case measure => simp [intOf]; omega
              · have : q = n := by omega
                subst this
                go_wp2
                go_ret
                exact ⟨rfl, hb05.trans (hbr.mono hb05.size)⟩
  · go_wp2
    go_ret
    exact ⟨rfl, Below.refl _ _⟩

end Go.Proofs.Qxb6605260a
