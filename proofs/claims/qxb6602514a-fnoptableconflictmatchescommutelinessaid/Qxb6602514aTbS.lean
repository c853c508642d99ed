import Derived.Test.Qxb6602514aChecked
import Derived.Test.Qxb6602514aMem
import Derived.WalkLawsBesides
import Derived.WalkSpells
set_option linter.unusedVariables false
namespace Go.Proofs.Qxb6602514a.Tb
open Go.RowKit

theorem cellOf {w wr : World} {a : Addr} {v : Value} (h : w.cell? a = some v) (hb : Below w.heap.size w wr) : wr.cell? a = some v := (hb.cell (World.block_lt_of_cell? w a h)).trans h

/-- The call answered an int between 0 and h. -/
def RetN (h : Nat) (e : Ending) : Prop := ∃ x : Nat, e = .returned (.int .i64 (x : Int)) ∧ x ≤ h
/-- The call answered a bool: P, where it is true. -/
def RetT (P : Prop) (e : Ending) : Prop := ∃ r : Bool, e = .returned (.bool r) ∧ (r = true → P)
theorem RetT.f {P : Prop} : RetT P (.returned (.bool false)) := ⟨false, rfl, fun h => by cases h⟩
theorem RetT.t {P : Prop} (h : P) : RetT P (.returned (.bool true)) := ⟨true, rfl, fun _ => h⟩

theorem min_any (a b : Nat) (w : World) : Calls Try.prog 15 #[.int .i64 a, .int .i64 b] w fun e w' => e = .returned (.int .i64 ((min a b : Nat) : Int)) ∧ w' = w := by
  by_cases h : a < b
  · go_enter Try.func15, Try.ntmps15
    go_wp2
    go_ret
    rw [show min a b = a by omega]; exact ⟨rfl, rfl⟩
  · go_enter Try.func15, Try.ntmps15
    go_wp2
    go_ret
    rw [show min a b = b by omega]; exact ⟨rfl, rfl⟩

/-- A []string as a reader sees it. -/
structure SIn (w : World) (a : Option Addr) (n c b off : Nat) (S : Nat → ByteArray) : Prop where
  nil : a = none → n = 0 ∧ c = 0
  at' : 0 < n → a = some ⟨b, off, none⟩
  cell : ∀ i, i < n → w.cell? ⟨b, off + i, none⟩ = some (.string (S i))
  max : ∀ i, i < n → (S i).size ≤ maxLen

theorem SIn.below {w w' : World} {a : Option Addr} {n c b off : Nat} {S : Nat → ByteArray} (h : SIn w a n c b off S) (hb : Below w.heap.size w w') : SIn w' a n c b off S :=
  ⟨h.nil, h.at', fun i hi => cellOf (h.cell i hi) hb, h.max⟩

theorem info9 : (Try.prog.info? 9).map (fun i => (i.zero, i.size, i.bytes)) = some (some (.string ByteArray.empty), 1, 16) := by kernel_rfl

theorem cloneS_some (b off n c : Nat) (S : Nat → ByteArray) (w : World) (hn : n ≤ 1048576)
    (hc : ∀ i, i < n → w.cell? ⟨b, off + i, none⟩ = some (.string (S i))) :
    Calls Try.prog 25 #[.slice (some ⟨b, off, none⟩) n c] w fun e w' => e = .returned (.slice (some ⟨w.heap.size, 0, none⟩) n n) ∧ (∀ j, j < n → w'.cell? ⟨w.heap.size, j, none⟩ = some (.string (S j))) ∧ Below w.heap.size w w' := by
  have he := fun wx : World => Lib.run_eql_slice_nil (P := Try.prog) wx 39 9 (some ⟨b, off, none⟩) n c 0 0 Try.underlying39
  go_enter Try.func25, Try.ntmps25
  go_wp2_with (at_make; refine wpList_make_row _ rfl _ _ 39 rfl 9 (.string ByteArray.empty) 1 16 Try.underlying39 info9 _ _ _ _ n rfl rfl rfl rfl (by omega) (by unfold maxLen; omega) _ (made_one _ rfl n) _ rfl ?_; intro w1 hrow hsz hbel)
  go_loopw [4] (fun i wr => ∃ k : Nat, k ≤ n ∧ i = .int .i64 k ∧ Below w.heap.size w wr ∧ ∃ vs : List Value, vs.length = n ∧ Row wr w.heap.size 9 vs ∧ Hid (∀ j, j < k → vs[j]? = some (.string (S j)))) (fun i _ => n - (intOf i).toNat)
  case atStart => exact ⟨0, Nat.zero_le _, rfl, hbel, List.replicate n (.string ByteArray.empty), by simp, hrow, fun j hj => by omega⟩
  case round =>
    obtain ⟨k, hk, rfl, hbr, vs, hvl, hvr, hvz⟩ := hrel
    clear hrow hsz hbel
    by_cases hlt : k < n
    · have g1 : wr.cell? ⟨b, off + k, none⟩ = some (.string (S k)) := cellOf (hc k hlt) hbr
      have g2 : wr.cell? ⟨w.heap.size, k, none⟩ = some (vs[k]'(by omega)) := by rw [hvr.cell k]; simp [hvl, hlt]
      have g3 := hvr.frozen k
      go_wp2
      go_roundw
      case rel =>
        refine ⟨k + 1, by omega, by go_num, hbr.setCell (by simp) _, vs.set k (.string (S k)), by simpa using hvl, hvr.set k _, fun j hj => ?_⟩
        by_cases e : j = k
        · subst e; simp [hvl, hlt]
        · have := hvz.out j (by omega)
          simpa [List.getElem?_set, show ¬ k = j by omega] using this
      case measure => simp [intOf]; omega
    · go_wp2
      go_ret
      exact ⟨rfl, fun j hj => (hvr.cell j).trans (hvz.out j (by omega)), hbr⟩

theorem cloneS_zero (x : Addr) (c : Nat) (w : World) :
    Calls Try.prog 25 #[.slice (some x) 0 c] w fun e w' => e = .returned (.slice (some ⟨w.heap.size, 0, none⟩) 0 0) ∧ Below w.heap.size w w' := by
  have he := fun wx : World => Lib.run_eql_slice_nil (P := Try.prog) wx 39 9 (some x) 0 c 0 0 Try.underlying39
  go_enter Try.func25, Try.ntmps25
  go_wp2_with (at_make; refine wpList_make_row _ rfl _ _ 39 rfl 9 (.string ByteArray.empty) 1 16 Try.underlying39 info9 _ _ _ _ 0 rfl rfl rfl rfl (by omega) (by unfold maxLen; omega) _ (made_one _ rfl 0) _ rfl ?_; intro w1 hrow hsz hbel)
  refine wp_loop_rounds 1 ?_
  rw [rounds_succ]
  go_wp2
  go_ret
  exact ⟨rfl, hbel⟩

theorem cloneS_nil (w : World) :
    Calls Try.prog 25 #[.slice none 0 0] w fun e w' => e = .returned (.slice none 0 0) ∧ w' = w := by
  have he := fun wx : World => Lib.run_eql_slice_nil (P := Try.prog) wx 39 9 none 0 0 0 0 Try.underlying39
  go_enter Try.func25, Try.ntmps25
  go_wp2
  go_ret
  exact ⟨rfl, rfl⟩

theorem cloneS_any (a : Option Addr) (b off n c : Nat) (S : Nat → ByteArray) (w : World) (hn : n ≤ 1048576) (h : SIn w a n c b off S) :
    Calls Try.prog 25 #[.slice a n c] w fun e w' => ∃ a' g, e = .returned (.slice a' n n) ∧ SIn w' a' n n g 0 S ∧ Below w.heap.size w w' := by
  cases a with
  | none =>
    obtain ⟨rfl, rfl⟩ := h.nil rfl
    refine (cloneS_nil w).mono ?_
    rintro e w' ⟨rfl, rfl⟩
    exact ⟨none, 0, rfl, ⟨fun _ => ⟨rfl, rfl⟩, fun h => by omega, fun j hj => by omega, fun j hj => by omega⟩, Below.refl _ _⟩
  | some x =>
    by_cases hp : n = 0
    · subst hp
      refine (cloneS_zero x c w).mono ?_
      rintro e w' ⟨rfl, h3⟩
      exact ⟨_, 0, rfl, ⟨(fun h => by cases h), fun h => by omega, fun j hj => by omega, fun j hj => by omega⟩, h3⟩
    · have hx := h.at' (by omega)
      obtain rfl := Option.some.inj hx
      refine (cloneS_some b off n c S w hn h.cell).mono ?_
      rintro e w' ⟨rfl, h2, h3⟩
      exact ⟨_, w.heap.size, rfl, ⟨(fun h => by cases h), fun _ => rfl, fun j hj => by rw [Nat.zero_add]; exact h2 j hj, h.max⟩, h3⟩

theorem opBytes_any (a0 a1 : Option Addr) (n0 n1 c0 c1 b0 b1 o0 o1 : Nat) (S0 S1 : Nat → ByteArray) (w : World) (h0 : SIn w a0 n0 c0 b0 o0 S0) (h1 : SIn w a1 n1 c1 b1 o1 S1) (k0 : n0 ≤ 1048576) (k1 : n1 ≤ 1048576) :
    Calls Try.prog 24 #[.slice a0 n0 c0, .slice a1 n1 c1] w fun e w' => RetN 100000000 e ∧ w' = w := by
  go_enter Try.func24, Try.ntmps24
  go_wp2
  go_loop [5, 6] (fun s i => ∃ k x : Nat, k ≤ n0 ∧ i = .int .i64 k ∧ s = .int .i64 x ∧ x ≤ 40000000) (fun _ i => n0 - (intOf i).toNat)
  case atStart => exact ⟨0, 16 * n0 + 16 * n1, Nat.zero_le _, rfl, by go_num, by omega⟩
  case round =>
    obtain ⟨k, x, hk, rfl, rfl, hx⟩ := hrel
    by_cases hlt : k < n0
    · obtain rfl := h0.at' (by omega)
      have g1 := h0.cell k hlt
      have hm := h0.max k hlt
      unfold maxLen at hm
      obtain ⟨s, hs⟩ : ∃ s, S0 k = s := ⟨_, rfl⟩
      rw [hs] at g1 hm
      clear hs
      by_cases p1 : x ≤ 1048576
      · by_cases p2 : s.size ≤ 1048576
        · go_wp2
          go_round
          case rel => exact ⟨k + 1, x + s.size, by omega, by go_num, by go_num, by omega⟩
          case measure => simp [intOf]; omega
        · go_wp2
          go_ret
          exact ⟨⟨1048577, rfl, by omega⟩, rfl⟩
      · go_wp2
        go_ret
        exact ⟨⟨1048577, rfl, by omega⟩, rfl⟩
    · go_wp2
      go_loop [5, 7] (fun s i => ∃ k x : Nat, k ≤ n1 ∧ i = .int .i64 k ∧ s = .int .i64 x ∧ x ≤ 40000000) (fun _ i => n1 - (intOf i).toNat)
      case atStart => exact ⟨0, x, Nat.zero_le _, rfl, by go_num, by omega⟩
      case round =>
        clear hx
        obtain ⟨k, x, hk, rfl, rfl, hx⟩ := hrel
        by_cases hlt : k < n1
        · obtain rfl := h1.at' (by omega)
          have g1 := h1.cell k hlt
          have hm := h1.max k hlt
          unfold maxLen at hm
          obtain ⟨s, hs⟩ : ∃ s, S1 k = s := ⟨_, rfl⟩
          rw [hs] at g1 hm
          clear hs
          by_cases p1 : x ≤ 1048576
          · by_cases p2 : s.size ≤ 1048576
            · go_wp2
              go_round
              case rel => exact ⟨k + 1, x + s.size, by omega, by go_num, by go_num, by omega⟩
              case measure => simp [intOf]; omega
            · go_wp2
              go_ret
              exact ⟨⟨1048577, rfl, by omega⟩, rfl⟩
          · go_wp2
            go_ret
            exact ⟨⟨1048577, rfl, by omega⟩, rfl⟩
        · go_wp2
          go_ret
          exact ⟨⟨x, rfl, by omega⟩, rfl⟩

def Fits2 (n0 n1 : Nat) : Prop := n0 ≤ 1048576 ∧ n1 ≤ 1048576

theorem bytes7_any (a0 a1 : Option Addr) (n0 n1 c0 c1 b0 b1 o0 o1 : Nat) (S0 S1 : Nat → ByteArray) (w : World) (m0 : n0 ≤ maxLen) (m1 : n1 ≤ maxLen) (h0 : SIn w a0 n0 c0 b0 o0 S0) (h1 : SIn w a1 n1 c1 b1 o1 S1) :
    Calls Try.prog 33 #[.slice a0 n0 c0, .slice a1 n1 c1] w fun e w' => RetT (Fits2 n0 n1) e ∧ w' = w := by
  unfold maxLen at m0 m1
  by_cases k0 : n0 ≤ 1048576
  · go_enter Try.func33, Try.ntmps33
    go_wp2
    go_loop [5, 6] (fun s i => ∃ k x : Nat, k ≤ n0 ∧ i = .int .i64 k ∧ s = .int .i64 x ∧ x ≤ 1048576) (fun _ i => n0 - (intOf i).toNat)
    case atStart => exact ⟨0, n0, Nat.zero_le _, rfl, by go_num, by omega⟩
    case round =>
      obtain ⟨k, x, hk, rfl, rfl, hx⟩ := hrel
      by_cases hlt : k < n0
      · obtain rfl := h0.at' (by omega)
        have g1 := h0.cell k hlt
        have hm := h0.max k hlt
        unfold maxLen at hm
        obtain ⟨s, hs⟩ : ∃ s, S0 k = s := ⟨_, rfl⟩
        rw [hs] at g1 hm
        clear hs
        by_cases p2 : s.size ≤ 1048576
        · by_cases p3 : x + s.size ≤ 1048576
          · go_wp2
            go_round
            case rel => exact ⟨k + 1, x + s.size, by omega, by go_num, by go_num, by omega⟩
            case measure => simp [intOf]; omega
          · go_wp2
            go_ret
            exact ⟨RetT.f, rfl⟩
        · go_wp2
          go_ret
          exact ⟨RetT.f, rfl⟩
      · by_cases k1 : n1 ≤ 1048576
        · by_cases p4 : x + n1 ≤ 1048576
          · go_wp2
            go_loop [5, 7] (fun s i => ∃ k x : Nat, k ≤ n1 ∧ i = .int .i64 k ∧ s = .int .i64 x ∧ x ≤ 1048576) (fun _ i => n1 - (intOf i).toNat)
            case atStart => exact ⟨0, x + n1, Nat.zero_le _, rfl, by go_num, by omega⟩
            case round =>
              clear hx p4
              obtain ⟨k, x, hk, rfl, rfl, hx⟩ := hrel
              by_cases hlt : k < n1
              · obtain rfl := h1.at' (by omega)
                have g1 := h1.cell k hlt
                have hm := h1.max k hlt
                unfold maxLen at hm
                obtain ⟨s, hs⟩ : ∃ s, S1 k = s := ⟨_, rfl⟩
                rw [hs] at g1 hm
                clear hs
                by_cases p2 : s.size ≤ 1048576
                · by_cases p3 : x + s.size ≤ 1048576
                  · go_wp2
                    go_round
                    case rel => exact ⟨k + 1, x + s.size, by omega, by go_num, by go_num, by omega⟩
                    case measure => simp [intOf]; omega
                  · go_wp2
                    go_ret
                    exact ⟨RetT.f, rfl⟩
                · go_wp2
                  go_ret
                  exact ⟨RetT.f, rfl⟩
              · go_wp2
                go_ret
                exact ⟨RetT.t ⟨k0, k1⟩, rfl⟩
          · go_wp2
            go_ret
            exact ⟨RetT.f, rfl⟩
        · go_wp2
          go_ret
          exact ⟨RetT.f, rfl⟩
  · go_enter Try.func33, Try.ntmps33
    go_wp2
    go_ret
    exact ⟨RetT.f, rfl⟩

end Go.Proofs.Qxb6602514a.Tb
