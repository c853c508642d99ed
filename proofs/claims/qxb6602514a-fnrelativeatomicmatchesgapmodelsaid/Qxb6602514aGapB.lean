import Derived.Test.Qxb6602514aGapA
set_option linter.unusedVariables false
namespace Go.Proofs.Qxb6602514a
open Go.RowKit

theorem info4 : (Try.prog.info? 4).map (fun i => (i.zero, i.size, i.bytes)) = some (some (.bool false), 1, 1) := by kernel_rfl
theorem info38 : (Try.prog.info? 38).map (fun i => (i.zero, i.size, i.bytes)) = some (some (.slice none 0 0), 1, 24) := by kernel_rfl

/-- A row of bools as a reader sees it. -/
def RdB (w : World) (oa : Option Addr) (n : Nat) (B : Nat → Bool) : Prop := 0 < n → ∃ g o, oa = some ⟨g, o, none⟩ ∧ ∀ j, j < n → w.cell? ⟨g, o + j, none⟩ = some (.bool (B j))

theorem cloneBools_some (b off n c : Nat) (B : Nat → Bool) (w : World) (hn : n ≤ 1048576)
    (hc : ∀ i, i < n → w.cell? ⟨b, off + i, none⟩ = some (.bool (B i))) :
    Calls Try.prog 45 #[.slice (some ⟨b, off, none⟩) n c] w fun e w' => e = .returned (.slice (some ⟨w.heap.size, 0, none⟩) n n) ∧ (∀ j, j < n → w'.cell? ⟨w.heap.size, j, none⟩ = some (.bool (B j))) ∧ Below w.heap.size w w' := by
  have he := fun wx : World => Lib.run_eql_slice_nil (P := Try.prog) wx 38 4 (some ⟨b, off, none⟩) n c 0 0 Try.underlying38
  go_enter Try.func45, Try.ntmps45
  go_wp2_with (at_make; refine wpList_make_row _ rfl _ _ 38 rfl 4 (.bool false) 1 1 Try.underlying38 info4 _ _ _ _ n rfl rfl rfl rfl (by omega) (by unfold maxLen; omega) _ (made_one _ rfl n) _ rfl ?_; intro w1 hrow hsz hbel)
  go_loopw [4] (fun i wr => ∃ k : Nat, k ≤ n ∧ i = .int .i64 k ∧ Below w.heap.size w wr ∧ ∃ vs : List Value, vs.length = n ∧ Row wr w.heap.size 4 vs ∧ Hid (∀ j, j < k → vs[j]? = some (.bool (B j)))) (fun i _ => n - (intOf i).toNat)
  case atStart => exact ⟨0, Nat.zero_le _, rfl, hbel, List.replicate n (.bool false), by simp, by simpa using hrow, fun j hj => by omega⟩
  case round =>
    obtain ⟨k, hk, rfl, hbr, vs, hvl, hvr, hvz⟩ := hrel
    clear hrow hsz hbel
    by_cases hlt : k < n
    · have g1 : wr.cell? ⟨b, off + k, none⟩ = some (.bool (B k)) := cellOf (hc k hlt) hbr
      have g2 : wr.cell? ⟨w.heap.size, k, none⟩ = some (vs[k]'(by omega)) := by rw [hvr.cell k]; simp [hvl, hlt]
      have g3 := hvr.frozen k
      go_wp2
      go_roundw
      case rel =>
        refine ⟨k + 1, by omega, by go_num, hbr.setCell (by simp) _, vs.set k (.bool (B k)), by simpa using hvl, hvr.set k _, fun j hj => ?_⟩
        by_cases e : j = k
        · subst e; simp [hvl, hlt]
        · have := hvz.out j (by omega)
          simpa [List.getElem?_set, show ¬ k = j by omega] using this
      case measure => simp [intOf]; omega
    · go_wp2
      go_ret
      exact ⟨rfl, fun j hj => (hvr.cell j).trans (hvz.out j (by omega)), hbr⟩

theorem cloneBools_zero (x : Addr) (c : Nat) (w : World) :
    Calls Try.prog 45 #[.slice (some x) 0 c] w fun e w' => e = .returned (.slice (some ⟨w.heap.size, 0, none⟩) 0 0) ∧ Below w.heap.size w w' := by
  have he := fun wx : World => Lib.run_eql_slice_nil (P := Try.prog) wx 38 4 (some x) 0 c 0 0 Try.underlying38
  go_enter Try.func45, Try.ntmps45
  go_wp2_with (at_make; refine wpList_make_row _ rfl _ _ 38 rfl 4 (.bool false) 1 1 Try.underlying38 info4 _ _ _ _ 0 rfl rfl rfl rfl (by omega) (by unfold maxLen; omega) _ (made_one _ rfl 0) _ rfl ?_; intro w1 hrow hsz hbel)
  refine wp_loop_rounds 1 ?_
  rw [rounds_succ]
  go_wp2
  go_ret
  exact ⟨rfl, hbel⟩

theorem cloneBools_nil (w : World) :
    Calls Try.prog 45 #[.slice none 0 0] w fun e w' => e = .returned (.slice none 0 0) ∧ w' = w := by
  have he := fun wx : World => Lib.run_eql_slice_nil (P := Try.prog) wx 38 4 none 0 0 0 0 Try.underlying38
  go_enter Try.func45, Try.ntmps45
  go_wp2
  go_ret
  exact ⟨rfl, rfl⟩

theorem cloneBools_any (oa : Option Addr) (n c : Nat) (B : Nat → Bool) (w : World) (hn : n ≤ 1048576) (h0 : oa = none → n = 0 ∧ c = 0) (h : RdB w oa n B) :
    Calls Try.prog 45 #[.slice oa n c] w fun e w' => ∃ a' g, e = .returned (.slice a' n n) ∧ (0 < n → a' = some ⟨g, 0, none⟩ ∧ w.heap.size ≤ g) ∧ (∀ j, j < n → w'.cell? ⟨g, j, none⟩ = some (.bool (B j))) ∧ Below w.heap.size w w' := by
  cases oa with
  | none =>
    obtain ⟨rfl, rfl⟩ := h0 rfl
    refine (cloneBools_nil w).mono ?_
    rintro e w' ⟨rfl, rfl⟩
    exact ⟨none, 0, rfl, fun h => by omega, fun j hj => by omega, Below.refl _ _⟩
  | some x =>
    by_cases hp : n = 0
    · subst hp
      refine (cloneBools_zero x c w).mono ?_
      rintro e w' ⟨rfl, h3⟩
      exact ⟨_, 0, rfl, fun h => by omega, fun j hj => by omega, h3⟩
    · obtain ⟨g, o, hx, hc⟩ := h (by omega)
      obtain rfl := Option.some.inj hx
      refine (cloneBools_some g o n c B w hn hc).mono ?_
      rintro e w' ⟨rfl, h2, h3⟩
      exact ⟨_, _, rfl, fun _ => ⟨rfl, Nat.le_refl _⟩, h2, h3⟩

/-- A [][]bool that came in. -/
structure MIn (w : World) (a : Option Addr) (n c b off : Nat) (A : Nat → Option Addr) (L C : Nat → Nat) (B : Nat → Nat → Bool) : Prop where
  nil : a = none → n = 0 ∧ c = 0
  at' : 0 < n → a = some ⟨b, off, none⟩
  cell : ∀ i, i < n → w.cell? ⟨b, off + i, none⟩ = some (.slice (A i) (L i) (C i))
  max : ∀ i, i < n → L i ≤ maxLen
  nils : ∀ i, i < n → A i = none → L i = 0 ∧ C i = 0
  rd : ∀ i, i < n → RdB w (A i) (L i) (B i)

theorem RdB.below {w w' : World} {oa : Option Addr} {n : Nat} {B : Nat → Bool} (h : RdB w oa n B) (hb : Below w.heap.size w w') : RdB w' oa n B := by
  intro hn
  obtain ⟨g, o, h1, h2⟩ := h hn
  exact ⟨g, o, h1, fun j hj => cellOf (h2 j hj) hb⟩

theorem MIn.below {w w' : World} {a : Option Addr} {n c b off : Nat} {A : Nat → Option Addr} {L C : Nat → Nat} {B : Nat → Nat → Bool} (h : MIn w a n c b off A L C B) (hb : Below w.heap.size w w') : MIn w' a n c b off A L C B :=
  ⟨h.nil, h.at', fun i hi => cellOf (h.cell i hi) hb, h.max, h.nils, fun i hi => (h.rd i hi).below hb⟩

theorem cloneMasks_some (b off n c : Nat) (A : Nat → Option Addr) (L C : Nat → Nat) (B : Nat → Nat → Bool) (w : World) (hn : n ≤ 1048576) (hL : ∀ i, i < n → L i ≤ 1048576)
    (hM : MIn w (some ⟨b, off, none⟩) n c b off A L C B) :
    Calls Try.prog 14 #[.slice (some ⟨b, off, none⟩) n c] w fun e w' => e = .returned (.slice (some ⟨w.heap.size, 0, none⟩) n n) ∧ MaskIn w' (some ⟨w.heap.size, 0, none⟩) n w.heap.size n (fun i => (List.range (L i)).map (B i)) ∧ Below w.heap.size w w' := by
  have he := fun wx : World => Lib.run_eql_slice_nil (P := Try.prog) wx 23 38 (some ⟨b, off, none⟩) n c 0 0 Try.underlying23
  go_enter Try.func14, Try.ntmps14
  go_wp2_with (at_make; refine wpList_make_row _ rfl _ _ 23 rfl 38 (.slice none 0 0) 1 24 Try.underlying23 info38 _ _ _ _ n rfl rfl rfl rfl (by omega) (by unfold maxLen; omega) _ (made_one _ rfl n) _ rfl ?_; intro w1 hrow hsz hbel)
  go_loopw [4] (fun i wr => ∃ k : Nat, k ≤ n ∧ i = .int .i64 k ∧ w.heap.size + 1 ≤ wr.heap.size ∧ Below w.heap.size w wr ∧ ∃ vs : List Value, vs.length = n ∧ Row wr w.heap.size 38 vs ∧ Hid (∀ j, j < k → ∃ oa g, vs[j]? = some (.slice oa (L j) (L j)) ∧ (0 < L j → oa = some ⟨g, 0, none⟩ ∧ w.heap.size < g) ∧ ∀ i, i < L j → wr.cell? ⟨g, i, none⟩ = some (.bool (B j i)))) (fun i _ => n - (intOf i).toNat)
  case atStart => exact ⟨0, Nat.zero_le _, rfl, by omega, hbel, List.replicate n (.slice none 0 0), by simp, hrow, fun j hj => by omega⟩
  case round =>
    obtain ⟨k, hk, rfl, hsr, hbr, vs, hvl, hvr, hvz⟩ := hrel
    clear hrow hsz hbel
    by_cases hlt : k < n
    · have g1 : wr.cell? ⟨b, off + k, none⟩ = some (.slice (A k) (L k) (C k)) := cellOf (hM.cell k hlt) hbr
      have hLk := hL k hlt
      have hcall := cloneBools_any (A k) (L k) (C k) (B k) wr hLk (hM.nils k hlt) ((hM.rd k hlt).below hbr)
      obtain ⟨Ak, hAk⟩ : ∃ x, A k = x := ⟨_, rfl⟩
      obtain ⟨Lk, hLk'⟩ : ∃ x, L k = x := ⟨_, rfl⟩
      obtain ⟨Ck, hCk⟩ : ∃ x, C k = x := ⟨_, rfl⟩
      rw [hAk, hLk', hCk] at g1 hcall
      rw [hLk'] at hLk
      have HL : Hid (L k = Lk) := hLk'
      clear hAk hLk' hCk
      go_wp2_with fail
      refine hcall.mono ?_
      rintro e w5 ⟨a', g, rfl, h1, h2, h3⟩
      clear hcall g1
      have hvr5 := hvr.below h3 hvr.lt
      have hb5 := hbr.trans (h3.mono (by omega : w.heap.size ≤ wr.heap.size))
      have hs5 := h3.size
      have g2 : w5.cell? ⟨w.heap.size, k, none⟩ = some (vs[k]'(by omega)) := by rw [hvr5.cell k]; simp [hvl, hlt]
      have g3 := hvr5.frozen k
      go_wp2
      go_roundw
      case rel =>
        refine ⟨k + 1, by omega, by go_num, by simp; omega, hb5.setCell (by simp) _, vs.set k (.slice a' Lk Lk), by simpa using hvl, hvr5.set k _, fun j hj => ?_⟩
        by_cases e : j = k
        · subst e
          refine ⟨a', g, by rw [HL.out]; simp [hvl, hlt], by rw [HL.out]; exact fun hp => ⟨(h1 hp).1, by have := (h1 hp).2; omega⟩, fun i hi => ?_⟩
          rw [HL.out] at hi
          rw [World.cell?_setCell_far _ _ _ _ (by have := (h1 (by omega)).2; simp; omega)]
          exact h2 i hi
        · obtain ⟨oa, g', p1, p2, p3⟩ := hvz.out j (by omega)
          refine ⟨oa, g', by simpa [List.getElem?_set, show ¬ k = j by omega] using p1, p2, fun i hi => ?_⟩
          rw [World.cell?_setCell_far _ _ _ _ (by have := (p2 (by omega)).2; simp; omega)]
          exact cellOf (p3 i hi) h3
      case measure => simp [intOf]; omega
    · go_wp2
      go_ret
      refine ⟨rfl, ⟨Nat.le_refl _, fun _ => rfl, fun i hi => ?_, fun i hi => ?_⟩, hbr⟩
      · obtain ⟨oa, g, p1, p2, p3⟩ := hvz.out i (by omega)
        refine ⟨oa, L i, g, ?_, ?_, ?_⟩
        · rw [hvr.cell i, p1]; simp
        · intro hp; simp at hp; exact (p2 hp).1
        · intro j hj; simp at hj; rw [p3 j hj]; simp [List.getD, hj]
      · simpa using hL i hi

theorem cloneMasks_zero (x : Addr) (c : Nat) (w : World) :
    Calls Try.prog 14 #[.slice (some x) 0 c] w fun e w' => e = .returned (.slice (some ⟨w.heap.size, 0, none⟩) 0 0) ∧ Below w.heap.size w w' := by
  have he := fun wx : World => Lib.run_eql_slice_nil (P := Try.prog) wx 23 38 (some x) 0 c 0 0 Try.underlying23
  go_enter Try.func14, Try.ntmps14
  go_wp2_with (at_make; refine wpList_make_row _ rfl _ _ 23 rfl 38 (.slice none 0 0) 1 24 Try.underlying23 info38 _ _ _ _ 0 rfl rfl rfl rfl (by omega) (by unfold maxLen; omega) _ (made_one _ rfl 0) _ rfl ?_; intro w1 hrow hsz hbel)
  refine wp_loop_rounds 1 ?_
  rw [rounds_succ]
  go_wp2
  go_ret
  exact ⟨rfl, hbel⟩

theorem cloneMasks_nil (w : World) :
    Calls Try.prog 14 #[.slice none 0 0] w fun e w' => e = .returned (.slice none 0 0) ∧ w' = w := by
  have he := fun wx : World => Lib.run_eql_slice_nil (P := Try.prog) wx 23 38 none 0 0 0 0 Try.underlying23
  go_enter Try.func14, Try.ntmps14
  go_wp2
  go_ret
  exact ⟨rfl, rfl⟩

theorem cloneMasks_any (a : Option Addr) (b off n c : Nat) (A : Nat → Option Addr) (L C : Nat → Nat) (B : Nat → Nat → Bool) (w : World) (hn : n ≤ 1048576) (hL : ∀ i, i < n → L i ≤ 1048576)
    (hM : MIn w a n c b off A L C B) :
    Calls Try.prog 14 #[.slice a n c] w fun e w' => ∃ a' ub, e = .returned (.slice a' n n) ∧ MaskIn w' a' n ub n (fun i => (List.range (L i)).map (B i)) ∧ Below w.heap.size w w' := by
  cases a with
  | none =>
    obtain ⟨rfl, rfl⟩ := hM.nil rfl
    refine (cloneMasks_nil w).mono ?_
    rintro e w' ⟨rfl, rfl⟩
    exact ⟨none, 0, rfl, ⟨Nat.le_refl _, fun h => by omega, fun i h => by omega, fun i h => by omega⟩, Below.refl _ _⟩
  | some x =>
    by_cases hp : n = 0
    · subst hp
      refine (cloneMasks_zero x c w).mono ?_
      rintro e w' ⟨rfl, h3⟩
      exact ⟨_, 0, rfl, ⟨Nat.le_refl _, fun h => by omega, fun i h => by omega, fun i h => by omega⟩, h3⟩
    · have hx := hM.at' (by omega)
      obtain rfl := Option.some.inj hx
      refine (cloneMasks_some b off n c A L C B w hn hL hM).mono ?_
      rintro e w' ⟨rfl, h2, h3⟩
      exact ⟨_, _, rfl, h2, h3⟩

/-- The call answered an int between 0 and h. -/
def RetN (h : Nat) (e : Ending) : Prop := ∃ x : Nat, e = .returned (.int .i64 (x : Int)) ∧ x ≤ h
/-- The call answered a bool: P, where it is true. -/
def RetT (P : Prop) (e : Ending) : Prop := ∃ r : Bool, e = .returned (.bool r) ∧ (r = true → P)
theorem RetT.f {P : Prop} : RetT P (.returned (.bool false)) := ⟨false, rfl, fun h => by cases h⟩
theorem RetT.t {P : Prop} (h : P) : RetT P (.returned (.bool true)) := ⟨true, rfl, fun _ => h⟩

theorem maskBytes_any (a : Option Addr) (b off n c : Nat) (A : Nat → Option Addr) (L C : Nat → Nat) (B : Nat → Nat → Bool) (w : World) (hn : n ≤ 1048576) (hL : ∀ i, i < n → L i ≤ 1048576)
    (hM : MIn w a n c b off A L C B) :
    Calls Try.prog 22 #[.slice a n c] w fun e w' => RetN 100000000 e ∧ w' = w := by
  go_enter Try.func22, Try.ntmps22
  go_wp2
  go_loop [3, 4] (fun s i => ∃ k x : Nat, k ≤ n ∧ i = .int .i64 k ∧ s = .int .i64 x ∧ x ≤ 30000000) (fun _ i => n - (intOf i).toNat)
  case atStart => exact ⟨0, 24 * n, Nat.zero_le _, rfl, by go_num, by omega⟩
  case round =>
    obtain ⟨k, x, hk, rfl, rfl, hx⟩ := hrel
    by_cases hlt : k < n
    · obtain rfl := hM.at' (by omega)
      have g1 := hM.cell k hlt
      have hLk := hL k hlt
      obtain ⟨Ak, hAk⟩ : ∃ x, A k = x := ⟨_, rfl⟩
      obtain ⟨Lk, hLk'⟩ : ∃ x, L k = x := ⟨_, rfl⟩
      obtain ⟨Ck, hCk⟩ : ∃ x, C k = x := ⟨_, rfl⟩
      rw [hAk, hLk', hCk] at g1
      rw [hLk'] at hLk
      clear hAk hLk' hCk
      by_cases h1 : x ≤ 1048576
      · go_wp2
        go_round
        case rel => exact ⟨k + 1, x + Lk, by omega, by go_num, by go_num, by omega⟩
        case measure => simp [intOf]; omega
      · go_wp2
        go_ret
        exact ⟨⟨1048577, rfl, by omega⟩, rfl⟩
    · go_wp2
      go_ret
      exact ⟨⟨x, rfl, by omega⟩, rfl⟩

theorem relBytes_any (a0 a1 a2 a : Option Addr) (n0 n1 n2 c0 c1 c2 : Nat) (b off n c : Nat) (A : Nat → Option Addr) (L C : Nat → Nat) (B : Nat → Nat → Bool) (w : World) (h0 : n0 ≤ 1048576) (h1 : n1 ≤ 1048576) (h2 : n2 ≤ 1048576) (hn : n ≤ 1048576) (hL : ∀ i, i < n → L i ≤ 1048576)
    (hM : MIn w a n c b off A L C B) :
    Calls Try.prog 12 #[.slice a0 n0 c0, .slice a1 n1 c1, .slice a2 n2 c2, .slice a n c] w fun e w' => RetN 200000000 e ∧ w' = w := by
  go_enter Try.func12, Try.ntmps12
  go_wp2_with fail
  refine (maskBytes_any a b off n c A L C B w hn hL hM).mono ?_
  rintro e w' ⟨⟨x, rfl, hx⟩, rfl⟩
  go_wp2
  go_ret
  exact ⟨⟨n0 + n1 + n2 + x, by go_num, by omega⟩, rfl⟩

end Go.Proofs.Qxb6602514a
