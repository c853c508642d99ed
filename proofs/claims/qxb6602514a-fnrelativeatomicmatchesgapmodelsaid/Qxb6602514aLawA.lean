import Derived.Test.Qxb6602514aZAt
set_option linter.unusedVariables false
namespace Go.Proofs.Qxb6602514a
open Go.RowKit

theorem cloneBytes_zero (x : Addr) (c : Nat) (w : World) :
    Calls Try.prog 13 #[.slice (some x) 0 c] w fun e w' => e = .returned (.slice (some ⟨w.heap.size, 0, none⟩) 0 0) ∧ IRow .u8 w' w.heap.size 5 [] ∧ w'.heap.size = w.heap.size + 1 ∧ Below w.heap.size w w' := by
  have he := fun wx : World => Lib.run_eql_slice_nil (P := Try.prog) wx 22 5 (some x) 0 c 0 0 Try.underlying22
  go_enter Try.func13, Try.ntmps13
  go_wp2_with (at_make; refine wpList_make_row _ rfl _ _ 22 rfl 5 (.int .u8 0) 1 1 Try.underlying22 info5 _ _ _ _ 0 rfl rfl rfl rfl (by omega) (by unfold maxLen; omega) _ (made_one _ rfl 0) _ rfl ?_; intro w1 hrow hsz hbel)
  refine wp_loop_rounds 1 ?_
  rw [rounds_succ]
  go_wp2
  go_ret
  exact ⟨rfl, hrow, hsz, hbel⟩

/-- A clone of a slice of bytes, whatever it was: nil, empty or not. -/
theorem cloneBytes_any (a : Option Addr) (n c cap : Nat) (zs : List Int) (w : World) (hn : n ≤ 1048576)
    (h : (a = none ∧ n = 0 ∧ c = 0 ∧ zs = []) ∨ ∃ x, a = some x ∧ n ≤ zs.length ∧ ∀ i, i < zs.length → w.cell? (x.add i) = some (.int .u8 (zs.getD i 0))) :
    Calls Try.prog 13 #[.slice a n c] w fun e w' => ∃ a', e = .returned (.slice a' n n) ∧ (0 < n → a' = some ⟨w.heap.size, 0, none⟩ ∧ IRow .u8 w' w.heap.size 5 (zs.take n)) ∧ w.heap.size ≤ w'.heap.size ∧ Below w.heap.size w w' := by
  rcases h with ⟨rfl, rfl, rfl, rfl⟩ | ⟨x, rfl, hl, hc⟩
  · refine (cloneBytes_nil w).mono ?_
    rintro e w' ⟨rfl, rfl⟩
    exact ⟨none, rfl, fun h => by omega, Nat.le_refl _, Below.refl _ _⟩
  · by_cases h0 : n = 0
    · subst h0
      refine (cloneBytes_zero x c w).mono ?_
      rintro e w' ⟨rfl, h1, h2, h3⟩
      exact ⟨_, rfl, fun h => by omega, by omega, h3⟩
    · obtain ⟨b, off, spot⟩ := x
      have hspot : spot = none := by simpa [Addr.add] using World.cell?_spot (hc 0 (by omega))
      subst hspot
      have hc' : ∀ i, i < n → w.cell? ⟨b, off + i, none⟩ = some (.int .u8 ((zs.take n).getD i 0)) := fun i hi => by
        have := hc i (by omega)
        rw [Addr.add_lit] at this
        rw [this]; simp [List.getD, hi]
      refine (cloneBytes_some b off n c (zs.take n) w hn (by simp; omega) (fun _ => World.block_lt_of_cell? w _ (hc' 0 (by omega))) hc').mono ?_
      rintro e w' ⟨rfl, h1, h2, h3⟩
      exact ⟨_, rfl, fun _ => ⟨rfl, h1⟩, by omega, h3⟩

theorem RelOk.alloc {w : World} {B n m U nu : Nat} {zs ids nx pv us : List Int} {st : List Value} (h : RelOk w B n m U nu zs ids nx pv us st) (o : Obj) : RelOk (w.alloc o) B n m U nu zs ids nx pv us st :=
  ⟨h.hids, h.links, h.steps.grown (World.grownBy_alloc _ _ none) (fun _ _ _ _ => by simp), h.stepsU, h.seg.alloc o, Row.alloc h.units o, h.ulen, h.urng, h.BU, by have := h.Ult; simp; omega⟩

theorem OkAll_nil {zs ids nx pv : List Int} {m : Nat} (hz : ∀ j, j < zs.length → 0 ≤ zs.getD j 0 ∧ zs.getD j 0 < 256) (hI : ∃ ds, Ids zs zs.length ids ds m) (hL : ∃ lst, Links ids zs.length m nx pv lst) (E : Nat → List Int) (hE : ∀ p, E p = []) :
    OkAll ids nx E ↔ SerialP zs := by
  obtain ⟨ds, hI⟩ := hI
  obtain ⟨lst, hL⟩ := hL
  have hlen : ids.length = zs.length := hI.lenI
  have hsame := fun i j (hi : i < zs.length) (hj : j < zs.length) => hI.same hz hi hj
  constructor
  · intro h l hl ⟨j, h1, h2, h3⟩
    have hjl : j + 1 < l := by
      rcases Nat.lt_or_eq_of_le h1 with h | h
      · exact h
      · rw [h] at h3; exact absurd rfl h3
    rcases hL.next j (by omega) with ⟨n1, n2⟩ | ⟨q, n1, n2, n3, n4, n5⟩
    · exact n2 l (by omega) hl ((hsame l j hl (by omega)).2 h2.symm)
    · have hq : j + 1 < q := by
        rcases Nat.lt_or_eq_of_le (show j + 1 ≤ q by omega) with h' | h'
        · exact h'
        · rw [← h'] at n4
          have := (hsame (j + 1) j (by omega) (by omega)).1 n4
          exact absurd (this.trans h2) h3
      have := h (j + 1) (by omega) j (by omega) (by rw [n1]; omega)
      rw [hE] at this
      simp at this
  · intro h i hi j hj hn
    exfalso
    rcases hL.next j (by omega) with ⟨n1, n2⟩ | ⟨q, n1, n2, n3, n4, n5⟩
    · omega
    · have e1 : zs.getD q 0 = zs.getD j 0 := (hsame q j n3 (by omega)).1 n4
      refine h q n3 ⟨j, by omega, e1.symm, fun e2 => ?_⟩
      exact n5 (j + 1) (by omega) (by omega) ((hsame (j + 1) j (by omega) (by omega)).2 (e2.trans e1))

theorem Ez_nil {m n : Nat} {us ids : List Int} {ua : Nat → List Bool} (h : ∀ j, j < m * m → us.getD j 0 = -1) (p : Nat) : Ez m us ids n ua p = [] := by
  have hk : ∀ t, t < m → ∀ o, o < m → kf m us (sl ids n) ua t o = [] := by
    intro t ht o ho
    unfold kf; rw [if_pos (by rw [h _ (idx_bd t o m ht ho)]; omega)]
  have ho : ∀ t, t < m → ∀ o, o ≤ m → obsL m us (sl ids n) ua t o = [] := by
    intro t ht o
    induction o with
    | zero => intro _; rfl
    | succ o ih => intro ho; simp only [obsL]; rw [if_pos (hk t ht o (by omega))]; exact ih (by omega)
  have hT : ∀ t, t ≤ m → evT (Fz ids n) (Os m us ids n ua) (Ks m us ids n ua) t = [] := by
    intro t
    induction t with
    | zero => intro _; rfl
    | succ t ih =>
      intro ht
      simp only [evT]
      rw [ih (by omega), show (Os m us ids n ua t) = [] from ho t (by omega) m (Nat.le_refl _)]
      rfl
  unfold Ez
  rw [hT m (Nat.le_refl _)]; rfl

set_option maxRecDepth 100000 in
set_option maxHeartbeats 2000000 in
theorem law_a (a : Option Addr) (n c : Nat) (zs : List Int) (w : World) (hm : n ≤ maxLen)
    (h : (a = none ∧ n = 0 ∧ c = 0 ∧ zs = []) ∨ ∃ x, a = some x ∧ n ≤ zs.length ∧ ∀ i, i < zs.length → w.cell? (x.add i) = some (.int .u8 (zs.getD i 0)))
    (hz : ∀ j, j < zs.length → 0 ≤ zs.getD j 0 ∧ zs.getD j 0 < 256) :
    Calls Try.prog 4 #[.slice a n c] w fun e w' => e = .returned (.bool true) ∧ Below w.heap.size w w' := by
  by_cases h1 : n ≤ 1048576
  · by_cases h2 : n ≤ 65536
    · have hzt : ∀ j, j < n → 0 ≤ (zs.take n).getD j 0 ∧ (zs.take n).getD j 0 < 256 := by
        intro j hj
        have hnl : n ≤ zs.length := by rcases h with ⟨_, rfl, _, _⟩ | ⟨x, _, h3, _⟩ <;> omega
        have := hz j (by omega)
        simpa [List.getD, List.getElem?_take, hj] using this
      have hlt : (zs.take n).length = n := by
        have hnl : n ≤ zs.length := by rcases h with ⟨_, rfl, _, _⟩ | ⟨x, _, h3, _⟩ <;> omega
        simp; omega
      go_enter Try.func4, Try.ntmps4
      go_wp2_with fail
      refine (bytes1_any _ _ _ _ hm).mono ?_
      rintro e w' ⟨rfl, rfl⟩
      simp only [h1, decide_true]
      go_wp2_with fail
      refine (cloneBytes_any a n c c zs _ h1 h).mono ?_
      rintro e w1 ⟨a', rfl, hcl, hsz1, hb1⟩
      go_wp2_with fail
      have hbd := build_any a' w'.heap.size n n (zs.take n) none none 0 0 0 0 0 0 0 [] [] w1 h2 hlt hcl hzt (by omega) (by omega) (by omega) (by omega) (by omega) (fun h => by omega) (fun h => by omega) (fun j h => by omega) (fun j h => by omega)
      rw [show ((0 : Nat) : Int) = 0 from rfl] at hbd
      refine hbd.mono ?_
      rintro e w2 ⟨m, U, ids, nx, pv, us, st, rfl, hb2, hR⟩
      clear hbd
      simp only [slc]
      go_wp2_with fail
      have hRa := hR.alloc (.cells #[.int .i64 m, .slice (some ⟨w1.heap.size + 3, 0, none⟩) n n, .slice (some ⟨w1.heap.size + 4, 0, none⟩) m m, .slice (some ⟨w1.heap.size + 5, 0, none⟩) n n, .slice (some ⟨w1.heap.size + 6, 0, none⟩) n n, .slice (some ⟨U, 0, none⟩) (m * m) (m * m)] 32)
      have hmn : m ≤ n := by obtain ⟨ds, hI⟩ := hR.hids; exact hI.mle
      have hb2' : Below w'.heap.size w' (w2.alloc (.cells #[.int .i64 m, .slice (some ⟨w1.heap.size + 3, 0, none⟩) n n, .slice (some ⟨w1.heap.size + 4, 0, none⟩) m m, .slice (some ⟨w1.heap.size + 5, 0, none⟩) n n, .slice (some ⟨w1.heap.size + 6, 0, none⟩) n n, .slice (some ⟨U, 0, none⟩) (m * m) (m * m)] 32)) := (hb1.trans (hb2.mono hsz1)).alloc (by have := hb2.size; omega) _
      have hb2'' : Below w1.heap.size w1 (w2.alloc (.cells #[.int .i64 m, .slice (some ⟨w1.heap.size + 3, 0, none⟩) n n, .slice (some ⟨w1.heap.size + 4, 0, none⟩) m m, .slice (some ⟨w1.heap.size + 5, 0, none⟩) n n, .slice (some ⟨w1.heap.size + 6, 0, none⟩) n n, .slice (some ⟨U, 0, none⟩) (m * m) (m * m)] 32)) := hb2.alloc (by have := hb2.size; omega) _
      refine (zzAtomic_any _ w1.heap.size n m U 0 0 0 0 none (zs.take n) ids nx pv us st (fun _ => []) h2 hmn (by omega) (by omega) hlt hzt hRa ⟨by omega, fun h => by omega, fun i h => by omega, fun i h => by omega⟩).mono ?_
      rintro e w3 ⟨r1, rfl, hr1, hb3⟩
      have hb3' := hb2'.trans (hb3.mono hb2'.size)
      have hb3'' := hb2''.trans (hb3.mono hb2''.size)
      clear hRa
      go_wp2_with fail
      refine (serial_any a' w'.heap.size n n (zs.take n) _ h1 hlt (fun hp => ⟨(hcl hp).1, Row.below (hcl hp).2 hb3'' (Row.lt (hcl hp).2)⟩) hzt).mono ?_
      rintro e w4 ⟨r2, rfl, hr2, hb4⟩
      have hEz : ∀ p, Ez m us ids n (fun _ => []) p = [] := Ez_nil (fun j hj => by have := hR.urng j hj; omega)
      have hok := OkAll_nil (zs := zs.take n) (by rw [hlt]; exact hzt) (by rw [hlt]; exact hR.hids) (by rw [hlt]; exact hR.links) _ hEz
      have hrr : (r1 == r2) = true := by
        have : r1 = true ↔ r2 = true := hr1.trans (hok.trans hr2.symm)
        cases r1 <;> cases r2 <;> simp_all
      clear hok hr1 hr2 hEz
      go_wp2
      go_ret
      exact ⟨by rw [← hrr]; rfl, hb3'.trans (hb4.mono hb3'.size)⟩
    · go_enter Try.func4, Try.ntmps4
      go_wp2_with fail
      refine (bytes1_any _ _ _ _ hm).mono ?_
      rintro e w' ⟨rfl, rfl⟩
      simp only [h1, decide_true]
      go_wp2
      go_ret
      exact ⟨rfl, Below.refl _ _⟩
  · go_enter Try.func4, Try.ntmps4
    go_wp2_with fail
    refine (bytes1_any _ _ _ _ hm).mono ?_
    rintro e w' ⟨rfl, rfl⟩
    simp only [h1, decide_false]
    go_wp2
    go_ret
    exact ⟨rfl, Below.refl _ _⟩

end Go.Proofs.Qxb6602514a
