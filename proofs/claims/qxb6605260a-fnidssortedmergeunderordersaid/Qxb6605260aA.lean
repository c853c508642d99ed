import Derived.Test.Qxb6605260aChecked
import Derived.Test.Qxb6605260aMem
import Derived.WalkLawsBesides
import Derived.WalkSpells
import Derived.BigQuiet
import Derived.BigRegion
import Derived.Deep.DeepCutAuto
set_option linter.unusedVariables false
namespace Go.Proofs.Qxb6605260a
open Go.RowKit

theorem cellOf {w wr : World} {a : Addr} {v : Value} (h : w.cell? a = some v) (hb : Below w.heap.size w wr) : wr.cell? a = some v := (hb.cell (World.block_lt_of_cell? w a h)).trans h
theorem bel_to_drew {B : Nat} {a w : World} (h : Below B a w) : Below B a w.drew := h.trans ⟨rfl, rfl, rfl, Nat.le_refl _, fun _ _ => rfl⟩

/-- The call answered a bool: P, where it is true. -/
def RetT (P : Prop) (e : Ending) : Prop := ∃ r : Bool, e = .returned (.bool r) ∧ (r = true → P)
theorem RetT.f {P : Prop} : RetT P (.returned (.bool false)) := ⟨false, rfl, fun h => by cases h⟩
theorem RetT.t {P : Prop} (h : P) : RetT P (.returned (.bool true)) := ⟨true, rfl, fun _ => h⟩

/-- A slice of nodes (or members) as a reader sees it. -/
structure NIn (w : World) (a : Option Addr) (n c b off : Nat) (I : Nat → Int) (S : Nat → ByteArray) (V : Nat → Bool) : Prop where
  nil : a = none → n = 0 ∧ c = 0
  at' : 0 < n → a = some ⟨b, off, none⟩
  id : ∀ i, i < n → w.cell? ⟨b, off + i * 3, none⟩ = some (.int .u64 (I i))
  ad : ∀ i, i < n → w.cell? ⟨b, off + i * 3 + 1, none⟩ = some (.string (S i))
  vo : ∀ i, i < n → w.cell? ⟨b, off + i * 3 + 2, none⟩ = some (.bool (V i))
  max : ∀ i, i < n → (S i).size ≤ maxLen

theorem NIn.below {w w' : World} {a : Option Addr} {n c b off : Nat} {I : Nat → Int} {S : Nat → ByteArray} {V : Nat → Bool} (h : NIn w a n c b off I S V) (hb : Below w.heap.size w w') : NIn w' a n c b off I S V :=
  ⟨h.nil, h.at', fun i hi => cellOf (h.id i hi) hb, fun i hi => cellOf (h.ad i hi) hb, fun i hi => cellOf (h.vo i hi) hb, h.max⟩

def Fits (n : Nat) (S : Nat → ByteArray) : Prop := n ≤ 1048576 ∧ ∀ i, i < n → (S i).size ≤ 1048576

theorem bytes_any (cfg : Int) (a : Option Addr) (n c b off : Nat) (I : Nat → Int) (S : Nat → ByteArray) (V : Nat → Bool) (w : World) (m0 : n ≤ maxLen) (h : NIn w a n c b off I S V) :
    Calls Try.prog 4 #[.int .u64 cfg, .slice a n c] w fun e w' => RetT (Fits n S) e ∧ w' = w := by
  unfold maxLen at m0
  by_cases k0 : n ≤ 1048576
  · go_enter Try.func4, Try.ntmps4
    go_wp2
    go_loop [5, 6] (fun s i => ∃ k x : Nat, k ≤ n ∧ i = .int .i64 k ∧ s = .int .i64 x ∧ x ≤ 1048576 ∧ Hid (∀ i, i < k → (S i).size ≤ 1048576)) (fun _ i => n - (intOf i).toNat)
    case atStart => exact ⟨0, n, Nat.zero_le _, rfl, by go_num, by omega, fun i hi => by omega⟩
    case round =>
      obtain ⟨k, x, hk, rfl, rfl, hx, hall⟩ := hrel
      by_cases hlt : k < n
      · obtain rfl := h.at' (by omega)
        have g1 := h.ad k hlt
        have hm := h.max k hlt
        unfold maxLen at hm
        obtain ⟨s, hs⟩ : ∃ s, S k = s := ⟨_, rfl⟩
        rw [hs] at g1 hm
        have HS : Hid (S k = s) := hs
        clear hs
        by_cases p2 : s.size ≤ 1048576
        · by_cases p3 : x + s.size ≤ 1048576
          · go_wp2
            go_round
            case rel =>
              refine ⟨k + 1, x + s.size, by omega, by go_num, by go_num, by omega, fun i hi => ?_⟩
              by_cases e : i = k
              · subst e; rw [HS.out]; exact p2
              · exact hall.out i (by omega)
            case measure => simp [intOf]; omega
          · go_wp2
            go_ret
            exact ⟨RetT.f, rfl⟩
        · go_wp2
          go_ret
          exact ⟨RetT.f, rfl⟩
      · have : k = n := by omega
        subst this
        go_wp2
        go_ret
        exact ⟨RetT.t ⟨k0, hall.out⟩, rfl⟩
  · go_enter Try.func4, Try.ntmps4
    go_wp2
    go_ret
    exact ⟨RetT.f, rfl⟩

theorem info26 : (Try.prog.info? 26).map (fun i => (i.zero, i.size, i.bytes)) = some (some (.agg #[.int .u64 0, .string ByteArray.empty, .bool false]), 3, 32) := by kernel_rfl
theorem info35 : (Try.prog.info? 35).map (fun i => (i.zero, i.size, i.bytes)) = some (some (.agg #[.int .u64 0, .string ByteArray.empty, .bool false]), 3, 32) := by kernel_rfl
theorem info22 : (Try.prog.info? 22).map (fun i => (i.zero, i.size, i.bytes)) = some (some (.int .u64 0), 1, 8) := by kernel_rfl

/-- The first k nodes lie in vs. -/
def Nodes (vs : List Value) (k : Nat) (I : Nat → Int) (S : Nat → ByteArray) (V : Nat → Bool) : Prop := ∀ j, j < k → vs[j * 3]? = some (.int .u64 (I j)) ∧ vs[j * 3 + 1]? = some (.string (S j)) ∧ vs[j * 3 + 2]? = some (.bool (V j))

theorem Nodes.zero (vs : List Value) (I : Nat → Int) (S : Nat → ByteArray) (V : Nat → Bool) : Nodes vs 0 I S V := fun j hj => by omega

theorem Nodes.next {vs : List Value} {k n : Nat} {I : Nat → Int} {S : Nat → ByteArray} {V : Nat → Bool} (h : Nodes vs k I S V) (hl : vs.length = n * 3) (hk : k < n) : Nodes (((vs.set (k * 3) (.int .u64 (I k))).set (k * 3 + 1) (.string (S k))).set (k * 3 + 2) (.bool (V k))) (k + 1) I S V := fun j hj => by
  by_cases e : j = k
  · subst e
    refine ⟨?_, ?_, ?_⟩
    · rw [List.getElem?_set_ne (by omega), List.getElem?_set_ne (by omega), List.getElem?_set_self (by omega)]
    · rw [List.getElem?_set_ne (by omega), List.getElem?_set_self (by simp; omega)]
    · rw [List.getElem?_set_self (by simp; omega)]
  · obtain ⟨p1, p2, p3⟩ := h j (by omega)
    refine ⟨?_, ?_, ?_⟩
    · rw [List.getElem?_set_ne (by omega), List.getElem?_set_ne (by omega), List.getElem?_set_ne (by omega)]; exact p1
    · rw [List.getElem?_set_ne (by omega), List.getElem?_set_ne (by omega), List.getElem?_set_ne (by omega)]; exact p2
    · rw [List.getElem?_set_ne (by omega), List.getElem?_set_ne (by omega), List.getElem?_set_ne (by omega)]; exact p3

theorem Nodes.nin {w : World} {b e n : Nat} {vs : List Value} {I : Nat → Int} {S : Nat → ByteArray} {V : Nat → Bool} (h : Nodes vs n I S V) (hr : Row w b e vs) (hm : ∀ i, i < n → (S i).size ≤ maxLen) : NIn w (some ⟨b, 0, none⟩) n n b 0 I S V := by
  refine ⟨(fun h => by cases h), fun _ => rfl, fun i hi => ?_, fun i hi => ?_, fun i hi => ?_, hm⟩
  · rw [Nat.zero_add, hr.cell]; exact (h i hi).1
  · rw [Nat.zero_add, hr.cell]; exact (h i hi).2.1
  · rw [Nat.zero_add, hr.cell]; exact (h i hi).2.2

theorem clone_some (x : Addr) (n c b off : Nat) (I : Nat → Int) (S : Nat → ByteArray) (V : Nat → Bool) (w : World) (hn : n ≤ 1048576) (h : NIn w (some x) n c b off I S V) :
    Calls Try.prog 5 #[.slice (some x) n c] w fun e w' => ∃ a' g, e = .returned (.slice a' n n) ∧ NIn w' a' n n g 0 I S V ∧ Below w.heap.size w w' := by
  have he := fun wx : World => Lib.run_eql_slice_nil (P := Try.prog) wx 23 26 (some x) n c 0 0 Try.underlying23
  go_enter Try.func5, Try.ntmps5
  go_wp2_with (at_make; refine wpList_make_row _ rfl _ _ 23 rfl 26 _ 3 32 Try.underlying23 info26 _ _ _ _ n rfl rfl rfl rfl (by omega) (by unfold maxLen; omega) _ rfl _ rfl ?_; intro w1 hrow hsz hbel)
  go_loopw [4] (fun i wr => ∃ k : Nat, k ≤ n ∧ i = .int .i64 k ∧ Below w.heap.size w wr ∧ ∃ vs : List Value, vs.length = n * 3 ∧ Row wr w.heap.size 26 vs ∧ Nodes vs k I S V) (fun i _ => n - (intOf i).toNat)
  case atStart => exact ⟨0, Nat.zero_le _, rfl, hbel, _, by simp [size_madeCells], hrow, Nodes.zero _ _ _ _⟩
  case round =>
    obtain ⟨k, hk, rfl, hbr, vs, hvl, hvr, hvz⟩ := hrel
    clear hrow hsz hbel
    by_cases hlt : k < n
    · obtain rfl := Option.some.inj (h.at' (by omega))
      have g0 := cellOf (h.id k hlt) hbr
      have g1 := cellOf (h.ad k hlt) hbr
      have g2 := cellOf (h.vo k hlt) hbr
      have d0 : wr.cell? ⟨w.heap.size, k * 3, none⟩ = some (vs[k * 3]'(by omega)) := by rw [hvr.cell]; simp
      have d1 : wr.cell? ⟨w.heap.size, k * 3 + 1, none⟩ = some (vs[k * 3 + 1]'(by omega)) := by rw [hvr.cell]; simp
      have d2 : wr.cell? ⟨w.heap.size, k * 3 + 2, none⟩ = some (vs[k * 3 + 2]'(by omega)) := by rw [hvr.cell]; simp
      have f0 := hvr.frozen (k * 3)
      have f1 := hvr.frozen (k * 3 + 1)
      have f2 := hvr.frozen (k * 3 + 2)
      go_wp2
      go_roundw
      case rel =>
        exact ⟨k + 1, by omega, by go_num, ((hbr.setCell (by simp) _).setCell (by simp) _).setCell (by simp) _, _, by simpa using hvl, ((hvr.set _ _).set _ _).set _ _, hvz.next hvl hlt⟩
      case measure => simp [intOf]; omega
    · have : k = n := by omega
      subst this
      go_wp2
      go_ret
      exact ⟨_, _, rfl, hvz.nin hvr h.max, hbr⟩

theorem nin_nil (w : World) (I : Nat → Int) (S : Nat → ByteArray) (V : Nat → Bool) : NIn w none 0 0 0 0 I S V :=
  ⟨fun _ => ⟨rfl, rfl⟩, fun h => by omega, fun i h => by omega, fun i h => by omega, fun i h => by omega, fun i h => by omega⟩

theorem clone_any (a : Option Addr) (n c b off : Nat) (I : Nat → Int) (S : Nat → ByteArray) (V : Nat → Bool) (w : World) (hn : n ≤ 1048576) (h : NIn w a n c b off I S V) :
    Calls Try.prog 5 #[.slice a n c] w fun e w' => ∃ a' g, e = .returned (.slice a' n n) ∧ NIn w' a' n n g 0 I S V ∧ Below w.heap.size w w' := by
  cases a with
  | some x => exact clone_some x n c b off I S V w hn h
  | none =>
    obtain ⟨rfl, rfl⟩ := h.nil rfl
    have he := fun wx : World => Lib.run_eql_slice_nil (P := Try.prog) wx 23 26 none 0 0 0 0 Try.underlying23
    go_enter Try.func5, Try.ntmps5
    go_wp2
    go_ret
    exact ⟨_, _, rfl, nin_nil _ _ _ _, Below.refl _ _⟩

/-- What toMembership hands back. -/
def MemNew (w : World) (cfg : Int) (n : Nat) (I : Nat → Int) (S : Nat → ByteArray) (V : Nat → Bool) (e : Ending) (w' : World) : Prop := ∃ a' g, e = .returned (.agg #[.int .u64 cfg, .slice a' n n]) ∧ NIn w' a' n n g 0 I S V ∧ Below w.heap.size w w'

theorem toMem_some (cfg : Int) (x : Addr) (n c b off : Nat) (I : Nat → Int) (S : Nat → ByteArray) (V : Nat → Bool) (w : World) (hn : n ≤ 1048576) (h : NIn w (some x) n c b off I S V) :
    Calls Try.prog 6 #[.int .u64 cfg, .slice (some x) n c] w fun e w' => MemNew w cfg n I S V e w' := by
  have he := fun wx : World => Lib.run_eql_slice_nil (P := Try.prog) wx 23 26 (some x) n c 0 0 Try.underlying23
  go_enter Try.func6, Try.ntmps6
  go_wp2_with (at_make; refine wpList_make_row _ rfl _ _ 28 rfl 35 _ 3 32 Try.underlying28 info35 _ _ _ _ n rfl rfl rfl rfl (by omega) (by unfold maxLen; omega) _ rfl (w.heap.size + 1) (by simp) ?_; intro w1 hrow hsz hbel)
  have hrM : Row w1 w.heap.size 30 [.int .u64 0, .slice none 0 0] := (Row.alloc_new w 30 #[.int .u64 0, .slice none 0 0]).below hbel (by omega)
  have hb1 : Below w.heap.size w w1 := ((Below.refl _ _).alloc (Nat.le_refl _) _).trans (hbel.mono (by omega))
  clear hbel hsz
  go_loopw [6] (fun i wr => ∃ k : Nat, k ≤ n ∧ i = .int .i64 k ∧ Below w.heap.size w wr ∧ Row wr w.heap.size 30 [.int .u64 0, .slice none 0 0] ∧ ∃ vs : List Value, vs.length = n * 3 ∧ Row wr (w.heap.size + 1) 35 vs ∧ Nodes vs k I S V) (fun i _ => n - (intOf i).toNat)
  case atStart => exact ⟨0, Nat.zero_le _, rfl, hb1, hrM, _, by simp [size_madeCells], hrow, Nodes.zero _ _ _ _⟩
  case round =>
    clear hrow hrM hb1
    obtain ⟨k, hk, rfl, hbr, hrM, vs, hvl, hvr, hvz⟩ := hrel
    by_cases hlt : k < n
    · obtain rfl := Option.some.inj (h.at' (by omega))
      have g0 := cellOf (h.id k hlt) hbr
      have g1 := cellOf (h.ad k hlt) hbr
      have g2 := cellOf (h.vo k hlt) hbr
      have d0 : wr.cell? ⟨w.heap.size + 1, k * 3, none⟩ = some (vs[k * 3]'(by omega)) := by rw [hvr.cell]; simp
      have d1 : wr.cell? ⟨w.heap.size + 1, k * 3 + 1, none⟩ = some (vs[k * 3 + 1]'(by omega)) := by rw [hvr.cell]; simp
      have d2 : wr.cell? ⟨w.heap.size + 1, k * 3 + 2, none⟩ = some (vs[k * 3 + 2]'(by omega)) := by rw [hvr.cell]; simp
      have f0 := hvr.frozen (k * 3)
      have f1 := hvr.frozen (k * 3 + 1)
      have f2 := hvr.frozen (k * 3 + 2)
      have j0 : (0 : Int) ≤ (k : Int) := by omega
      have j1 : (k : Int) < (n : Int) := by omega
      go_upto_region 7 with fail
      go_region
      go_wp2
      go_roundw
      case rel =>
        refine ⟨k + 1, by omega, by go_num, bel_to_drew (((hbr.setCell (by simp) _).setCell (by simp) _).setCell (by simp) _), ?_, _, ?_, ((hvr.set _ _).set _ _).set _ _, hvz.next hvl hlt⟩
        · exact ((hrM.set_ne (by simp) _).set_ne (by simp) _).set_ne (by simp) _
        · simpa using hvl
      case measure => simp [intOf]; omega
    · have : k = n := by omega
      subst this
      have d0 : wr.cell? ⟨w.heap.size, 0, none⟩ = some (.int .u64 0) := hrM.cell 0
      have d1 : wr.cell? ⟨w.heap.size, 1, none⟩ = some (.slice none 0 0) := hrM.cell 1
      have f0 := hrM.frozen 0
      have f1 := hrM.frozen 1
      go_wp2
      refine bodyPost_ret (v := .agg #[.int .u64 cfg, .slice (some ⟨w.heap.size + 1, 0, none⟩) k k]) (by simp [results, Try.results6, go_sem, d0, d1]) rfl ⟨_, _, rfl, hvz.nin ((hvr.set_ne (by simp) _).set_ne (by simp) _) h.max, (hbr.setCell (by simp) _).setCell (by simp) _⟩

theorem toMem_any (cfg : Int) (a : Option Addr) (n c b off : Nat) (I : Nat → Int) (S : Nat → ByteArray) (V : Nat → Bool) (w : World) (hn : n ≤ 1048576) (h : NIn w a n c b off I S V) :
    Calls Try.prog 6 #[.int .u64 cfg, .slice a n c] w fun e w' => MemNew w cfg n I S V e w' := by
  cases a with
  | some x => exact toMem_some cfg x n c b off I S V w hn h
  | none =>
    obtain ⟨rfl, rfl⟩ := h.nil rfl
    have he := fun wx : World => Lib.run_eql_slice_nil (P := Try.prog) wx 23 26 none 0 0 0 0 Try.underlying23
    have hrM : Row (w.alloc (.cells #[.int .u64 0, .slice none 0 0] 30)) w.heap.size 30 [.int .u64 0, .slice none 0 0] := Row.alloc_new w 30 #[.int .u64 0, .slice none 0 0]
    have d0 : (w.alloc (.cells #[.int .u64 0, .slice none 0 0] 30)).cell? ⟨w.heap.size, 0, none⟩ = some (.int .u64 0) := hrM.cell 0
    have d1 : (w.alloc (.cells #[.int .u64 0, .slice none 0 0] 30)).cell? ⟨w.heap.size, 1, none⟩ = some (.slice none 0 0) := hrM.cell 1
    have f0 := hrM.frozen 0
    have f1 := hrM.frozen 1
    go_enter Try.func6, Try.ntmps6
    go_wp2
    refine bodyPost_ret (v := .agg #[.int .u64 cfg, .slice none 0 0]) (by simp [results, Try.results6, go_sem]) rfl ⟨_, _, rfl, nin_nil _ _ _ _, (Below.refl _ _).alloc (Nat.le_refl _) _⟩

/-- The ids of the first k members whose vote is v. -/
def sel (I : Nat → Int) (V : Nat → Bool) (v : Bool) : Nat → List Int
  | 0 => []
  | k + 1 => if V k = v then sel I V v k ++ [I k] else sel I V v k

theorem sel_len (I : Nat → Int) (V : Nat → Bool) (v : Bool) (k : Nat) : (sel I V v k).length ≤ k := by
  induction k with
  | zero => simp [sel]
  | succ k ih =>
    simp only [sel]
    split
    · simp; omega
    · omega

/-- What IDs hands back. -/
def IdsNew (w : World) (L : List Int) (e : Ending) (w' : World) : Prop := ∃ g cap, e = .returned (.slice (some ⟨g, 0, none⟩) L.length cap) ∧ (∀ j, j < L.length → w'.cell? ⟨g, j, none⟩ = some (.int .u64 (L.getD j 0))) ∧ Below w.heap.size w w'

theorem ids_any (cfg : Int) (v : Bool) (a : Option Addr) (n c b off : Nat) (I : Nat → Int) (S : Nat → ByteArray) (V : Nat → Bool) (w : World) (hn : n ≤ 1048576) (h : NIn w a n c b off I S V) :
    Calls Try.prog 7 #[.agg #[.int .u64 cfg, .slice a n c], .bool v] w fun e w' => IdsNew w (sel I V v n) e w' := by
  obtain ⟨i0, hi0, hz0, hz1, hz2⟩ := info_parts info22
  have hbA : Below w.heap.size w ((w.alloc (.cells #[.int .u64 cfg, .slice a n c] 30)).alloc (.cells #[] 22)) := ((Below.refl _ _).alloc (Nat.le_refl _) _).alloc (by simp) _
  have howA : ((w.alloc (.cells #[.int .u64 cfg, .slice a n c] 30)).alloc (.cells #[] 22)).ownsRow w.heap.size 22 1 (.slice (some ⟨w.heap.size + 1, 0, none⟩) 0 0) 0 [] :=
    ⟨rfl, .inr ⟨w.heap.size + 1, 0, #[], rfl, by omega, by have := heap_alloc_new (w.alloc (.cells #[.int .u64 cfg, .slice a n c] 30)) (.cells #[] 22); simpa using this, Nat.le_refl _, by unfold maxLen; omega, rfl, rfl⟩⟩
  go_enter Try.func7, Try.ntmps7
  go_wp2
  go_loopw [5, 12] (fun x i wr => ∃ k : Nat, k ≤ n ∧ i = .int .i64 k ∧ Below w.heap.size w wr ∧ w.heap.size ≤ wr.heap.size ∧ ∃ g cap, x = .slice (some ⟨g, 0, none⟩) (sel I V v k).length cap ∧ wr.ownsRow w.heap.size 22 1 x (sel I V v k).length ((sel I V v k).map (Value.int .u64))) (fun _ i _ => n - (intOf i).toNat)
  case atStart => exact ⟨0, Nat.zero_le _, rfl, hbA, hbA.size, _, _, rfl, howA⟩
  case round =>
    clear hbA howA
    obtain ⟨k, hk, rfl, hbr, hsz, g, cap, rfl, hown⟩ := hrel
    have hlk := sel_len I V v k
    by_cases hlt : k < n
    · obtain rfl := h.at' (by omega)
      have g0 := cellOf (h.id k hlt) hbr
      have g1 := cellOf (h.ad k hlt) hbr
      have g2 := cellOf (h.vo k hlt) hbr
      have hrN := Row.alloc_new wr 35 #[.int .u64 (I k), .string (S k), .bool (V k)]
      by_cases hv : V k = v
      · have hs : sel I V v (k + 1) = sel I V v k ++ [I k] := by simp only [sel]; rw [if_pos hv]
        have HS : Hid (sel I V v (k + 1) = sel I V v k ++ [I k]) := hs
        clear hs
        have hgl := (hown.lt g rfl).1
        go_wp2_with (at_builtin; refine wpList_append_lies _ rfl (.tmp 20) (.tmp 23) 32 rfl w.heap.size 22 i0 _ 1 8 Try.underlying32 hi0 hz0 hz1 hz2 rfl (by omega) _ (sel I V v k).length _ (by rfl) ((hown.alloc _).alloc _) ⟨wr.heap.size + 1, 0, none⟩ 1 1 [.int .u64 (I k)] (by rfl) (by rfl) (World.news_of_block (cs := #[.int .u64 (I k)]) (t := 22) (fr := (0, 0)) (by have := heap_alloc_new (wr.alloc (Obj.cells #[Value.int IntKind.u64 (I k), Value.string (S k), Value.bool v] 35)) (.cells #[.int .u64 (I k)] 22); simpa using this)) (by simp [Value.oneCell']) (by omega) (by unfold maxLen; omega) (by omega) (by simp; omega) (wr.heap.size + 2) (by simp) ?_; intro gg cap' w1 hown1 hgrow hat hlt1)
        go_roundw
        case rel =>
          have hb1 : Below w.heap.size w w1 := (((hbr.alloc hsz _).alloc (by simp; omega) _).grown hgrow (by simp; omega) (fun j hj => by cases hj; exact hgl))
          refine ⟨k + 1, by omega, by go_num, hb1, hb1.size, gg, cap', by rw [HS.out]; simp, ?_⟩
          rw [HS.out]
          simpa using hown1
        case measure => simp [intOf]; omega
      · have hs : sel I V v (k + 1) = sel I V v k := by simp only [sel]; rw [if_neg hv]
        have hv' : (V k == v) = false := by simpa using hv
        go_wp2
        go_roundw
        case rel =>
          have hb1 := hbr.alloc hsz (.cells #[.int .u64 (I k), .string (S k), .bool (V k)] 35)
          refine ⟨k + 1, by omega, by go_num, hb1, hb1.size, g, cap, by rw [hs], ?_⟩
          rw [hs]
          exact hown.alloc _
        case measure => simp [intOf]; omega
    · have : k = n := by omega
      subst this
      go_wp2
      go_ret
      refine ⟨g, cap, rfl, fun j hj => ?_, hbr⟩
      rw [hown.cellAt j (by omega)]
      simp [List.getD, hj]

end Go.Proofs.Qxb6605260a
