/-
  The small functions on the road of FnChainsMatchesBackwardWalk.
-/
import Derived.Test.Qxb6602514aChecked
import Derived.Test.Qxb6602514aMem
import Derived.WalkLawsBesides
import Derived.WalkSpells
import Derived.Deep.QuietTactic
import Derived.BigQuiet
import Derived.RegionTactic
set_option linter.unusedVariables false
namespace Go.Proofs.Qxb6602514a.Ch
open Go.RowKit

/-- The call answered a bool: true exactly when P. -/
def RetB (P : Prop) (e : Ending) : Prop := ∃ r : Bool, e = .returned (.bool r) ∧ (r = true ↔ P)
theorem RetB.t {P : Prop} (h : P) : RetB P (.returned (.bool true)) := ⟨true, rfl, by simp [h]⟩
theorem RetB.f {P : Prop} (h : ¬ P) : RetB P (.returned (.bool false)) := ⟨false, rfl, by simp [h]⟩

theorem bytes37 (a1 a2 : Option Addr) (n1 n2 c1 c2 : Nat) (N : Int) (w : World) (h1 : n1 ≤ maxLen) (h2 : n2 ≤ maxLen) :
    Calls Try.prog 37 #[.slice a1 n1 c1, .slice a2 n2 c2, .int .i64 N] w fun e w' => e = .returned (.bool (decide (n1 + n2 ≤ 1048576))) ∧ w' = w := by
  unfold maxLen at h1 h2
  by_cases k1 : n1 ≤ 1048576
  · by_cases k2 : n2 ≤ 1048576
    · by_cases k3 : n1 + n2 ≤ 1048576
      · go_enter Try.func37, Try.ntmps37
        go_wp2
        go_ret
        simp [k3]
      · go_enter Try.func37, Try.ntmps37
        go_wp2
        go_ret
        simp [k3]
    · have k3 : ¬ n1 + n2 ≤ 1048576 := by omega
      go_enter Try.func37, Try.ntmps37
      go_wp2
      go_ret
      simp [k3]
  · have k3 : ¬ n1 + n2 ≤ 1048576 := by omega
    go_enter Try.func37, Try.ntmps37
    go_wp2
    go_ret
    simp [k3]

theorem chainBytes (a1 a2 : Option Addr) (n1 n2 c1 c2 : Nat) (w : World) (k1 : n1 ≤ 1048576) (k2 : n2 ≤ 1048576) :
    Calls Try.prog 38 #[.slice a1 n1 c1, .slice a2 n2 c2] w fun e w' => e = .returned (.int .i64 (4 * (n1 : Int) + 4 * (n2 : Int))) ∧ w' = w := by
  go_enter Try.func38, Try.ntmps38
  go_wp2
  go_ret
  exact ⟨rfl, rfl⟩

theorem min_any (a b : Nat) (w : World) : Calls Try.prog 15 #[.int .i64 a, .int .i64 b] w fun e w' => e = .returned (.int .i64 ((min a b : Nat) : Int)) ∧ w' = w := by
  by_cases h : a < b
  · go_enter Try.func15, Try.ntmps15
    go_wp2
    go_ret
    rw [show min a b = a by omega]; exact ⟨rfl, rfl⟩
  · go_enter Try.func15, Try.ntmps15
    go_wp2
    go_ret
    rw [show min a b = b by omega]; exact ⟨rfl, rfl⟩

theorem info21 : (Try.prog.info? 21).map (fun i => (i.zero, i.size, i.bytes)) = some (some (.int .i32 0), 1, 4) := by kernel_rfl

theorem ext_zs {zs vs : List Int} {n : Nat} (h1 : zs.length = n) (h2 : vs.length = n) (h : ∀ j, j < n → vs.getD j 0 = zs.getD j 0) : vs = zs := by
  apply List.ext_getElem (by omega)
  intro i hi hj
  have := h i (by omega)
  simpa [List.getD, hi, hj] using this

theorem clone_nil (w : World) :
    Calls Try.prog 39 #[.slice none 0 0] w fun e w' => e = .returned (.slice none 0 0) ∧ w' = w := by
  have he := fun wx : World => Lib.run_eql_slice_nil (P := Try.prog) wx 56 21 none 0 0 0 0 Try.underlying56
  go_enter Try.func39, Try.ntmps39
  go_wp2
  go_ret
  exact ⟨rfl, rfl⟩

theorem clone_some (x : Addr) (b off n c : Nat) (zs : List Int) (w : World) (hn : n ≤ 1048576) (hl : zs.length = n) (hx : 0 < n → x = ⟨b, off, none⟩ ∧ b < w.heap.size)
    (hc : ∀ i, i < n → w.cell? ⟨b, off + i, none⟩ = some (.int .i32 (zs.getD i 0))) :
    Calls Try.prog 39 #[.slice (some x) n c] w fun e w' => e = .returned (.slice (some ⟨w.heap.size, 0, none⟩) n n) ∧ IRow .i32 w' w.heap.size 21 zs ∧ w'.heap.size = w.heap.size + 1 ∧ Below w.heap.size w w' := by
  have he := fun wx : World => Lib.run_eql_slice_nil (P := Try.prog) wx 56 21 (some x) n c 0 0 Try.underlying56
  go_enter Try.func39, Try.ntmps39
  go_wp2_with (at_make; refine wpList_make_row _ rfl _ _ 56 rfl 21 (.int .i32 0) 1 4 Try.underlying56 info21 _ _ _ _ n rfl rfl rfl rfl (by omega) (by unfold maxLen; omega) _ (made_one _ rfl n) _ rfl ?_; intro w1 hrow hsz hbel)
  go_loopw [4] (fun i wr => ∃ k : Nat, k ≤ n ∧ i = .int .i64 k ∧ wr.heap.size = w.heap.size + 1 ∧ Below w.heap.size w wr ∧ ∃ vs : List Int, vs.length = n ∧ IRow .i32 wr w.heap.size 21 vs ∧ ∀ j, j < k → vs.getD j 0 = zs.getD j 0) (fun i _ => n - (intOf i).toNat)
  case atStart => exact ⟨0, Nat.zero_le _, rfl, hsz, hbel, List.replicate n 0, by simp, by unfold IRow; simpa using hrow, by omega⟩
  case round =>
    obtain ⟨k, hk, rfl, hsr, hbr, vs, hvl, hvr, hvz⟩ := hrel
    clear hrow hsz hbel
    by_cases hlt : k < n
    · obtain ⟨rfl, hb⟩ := hx (by omega)
      have g1 : wr.cell? ⟨b, off + k, none⟩ = some (.int .i32 (zs.getD k 0)) := (hbr.cell (by exact hb)).trans (hc k hlt)
      have g2 := hvr.cell k (by omega)
      have g3 := Row.frozen hvr k
      go_wp2
      go_roundw
      case rel =>
        refine ⟨k + 1, by omega, by go_num, by simpa using hsr, hbr.setCell (by simp) _, vs.set k (zs[k]'(by omega)), by simpa using hvl, ?_, ?_⟩
        · exact hvr.set k _
        · intro j hj
          by_cases e : j = k
          · subst e; simp [List.getD, hvl, hlt, hl]
          · have := hvz j (by omega)
            simpa [List.getD, List.getElem?_set, show ¬ k = j by omega] using this
      case measure => simp [intOf]; omega
    · go_wp2
      go_ret
      have : vs = zs := ext_zs hl hvl (fun j hj => hvz j (by omega))
      subst this
      exact ⟨rfl, hvr, hsr, hbr⟩

/-- A clone of a slice, whatever it was: nil, empty or not. -/
theorem clone_any (a : Option Addr) (n c : Nat) (zs : List Int) (w : World) (hn : n ≤ 1048576)
    (h : (a = none ∧ n = 0 ∧ c = 0 ∧ zs = []) ∨ ∃ x, a = some x ∧ n ≤ zs.length ∧ ∀ i, i < zs.length → w.cell? (x.add i) = some (.int .i32 (zs.getD i 0))) :
    Calls Try.prog 39 #[.slice a n c] w fun e w' => ∃ a', e = .returned (.slice a' n n) ∧ (a' = none ∨ a' = some ⟨w.heap.size, 0, none⟩) ∧ (0 < n → a' = some ⟨w.heap.size, 0, none⟩ ∧ IRow .i32 w' w.heap.size 21 (zs.take n)) ∧ w.heap.size ≤ w'.heap.size ∧ Below w.heap.size w w' := by
  rcases h with ⟨rfl, rfl, rfl, rfl⟩ | ⟨x, rfl, hl, hc⟩
  · refine (clone_nil w).mono ?_
    rintro e w' ⟨rfl, rfl⟩
    exact ⟨none, rfl, .inl rfl, fun h => by omega, Nat.le_refl _, Below.refl _ _⟩
  · obtain ⟨b, off, spot⟩ := x
    have hspot : 0 < n → spot = none := fun h => by simpa [Addr.add] using World.cell?_spot (hc 0 (by omega))
    have hc' : ∀ i, i < n → w.cell? ⟨b, off + i, none⟩ = some (.int .i32 ((zs.take n).getD i 0)) := fun i hi => by
      have hs := hspot (by omega)
      subst hs
      have := hc i (by omega)
      rw [Addr.add_lit] at this
      rw [this]; simp [List.getD, hi]
    refine (clone_some ⟨b, off, spot⟩ b off n c (zs.take n) w hn (by simp; omega) (fun hp => ⟨by rw [hspot hp], World.block_lt_of_cell? w _ (hc' 0 (by omega))⟩) hc').mono ?_
    rintro e w' ⟨rfl, h1, h2, h3⟩
    exact ⟨_, rfl, .inr rfl, fun _ => ⟨rfl, h1⟩, by omega, h3⟩

/-- Each write names an entity in range, and what it follows. -/
def DomP (es fs : List Int) (n N : Nat) : Prop := ∀ k, k < n → (0 ≤ es.getD k 0 ∧ es.getD k 0 < (N : Int)) ∧ (-2 ≤ fs.getD k 0 ∧ fs.getD k 0 < (n : Int))

theorem domain_any (a1 a2 : Option Addr) (b1 b2 n c1 c2 N : Nat) (es fs : List Int) (w : World) (hn : n ≤ 4096) (hN : N ≤ 65536) (hl1 : n ≤ es.length) (hl2 : n ≤ fs.length)
    (h1 : 0 < n → a1 = some ⟨b1, 0, none⟩ ∧ IRow .i32 w b1 21 es) (h2 : 0 < n → a2 = some ⟨b2, 0, none⟩ ∧ IRow .i32 w b2 21 fs)
    (z1 : ∀ j, j < n → -2147483648 ≤ es.getD j 0 ∧ es.getD j 0 ≤ 2147483647) (z2 : ∀ j, j < n → -2147483648 ≤ fs.getD j 0 ∧ fs.getD j 0 ≤ 2147483647) :
    Calls Try.prog 40 #[.slice a1 n c1, .slice a2 n c2, .int .i64 N] w fun e w' => RetB (DomP es fs n N) e ∧ w' = w := by
  go_enter Try.func40, Try.ntmps40
  go_wp2
  go_loop [8] (fun i => ∃ k : Nat, k ≤ n ∧ i = .int .i64 k ∧ ∀ j, j < k → (0 ≤ es.getD j 0 ∧ es.getD j 0 < (N : Int)) ∧ (-2 ≤ fs.getD j 0 ∧ fs.getD j 0 < (n : Int))) (fun i => n - (intOf i).toNat)
  case atStart => exact ⟨0, Nat.zero_le _, rfl, fun j hj => by omega⟩
  case round =>
    obtain ⟨k, hk, rfl, hok⟩ := hrel
    by_cases hlt : k < n
    · obtain ⟨rfl, r1⟩ := h1 (by omega)
      obtain ⟨rfl, r2⟩ := h2 (by omega)
      have g1 := r1.cell k (by omega)
      have g2 := r2.cell k (by omega)
      have y1 := z1 k hlt
      have y2 := z2 k hlt
      obtain ⟨x, hx⟩ : ∃ x, es.getD k 0 = x := ⟨_, rfl⟩
      obtain ⟨y, hy⟩ : ∃ y, fs.getD k 0 = y := ⟨_, rfl⟩
      rw [hx] at g1 y1
      rw [hy] at g2 y2
      have HX : Hid (es.getD k 0 = x) := hx
      have HY : Hid (fs.getD k 0 = y) := hy
      clear hx hy
      have HOK : Hid (∀ j, j < k → (0 ≤ es.getD j 0 ∧ es.getD j 0 < (N : Int)) ∧ (-2 ≤ fs.getD j 0 ∧ fs.getD j 0 < (n : Int))) := hok
      clear hok
      obtain ⟨y1a, y1b⟩ := y1
      obtain ⟨y2a, y2b⟩ := y2
      by_cases c1 : x < 0
      · go_wp2
        go_ret
        refine ⟨RetB.f ?_, rfl⟩
        intro h
        have := (h k hlt).1
        rw [HX.out] at this; omega
      · by_cases c2 : (N : Int) ≤ x
        · go_wp2
          go_ret
          refine ⟨RetB.f ?_, rfl⟩
          intro h
          have := (h k hlt).1
          rw [HX.out] at this; omega
        · by_cases c3 : y < -2
          · go_wp2
            go_ret
            refine ⟨RetB.f ?_, rfl⟩
            intro h
            have := (h k hlt).2
            rw [HY.out] at this; omega
          · by_cases c4 : (n : Int) ≤ y
            · go_wp2
              go_ret
              refine ⟨RetB.f ?_, rfl⟩
              intro h
              have := (h k hlt).2
              rw [HY.out] at this; omega
            · go_wp2
              go_round
              case rel =>
                refine ⟨k + 1, by omega, by go_num, fun j hj => ?_⟩
                by_cases e : j = k
                · subst e; rw [HX.out, HY.out]; omega
                · exact HOK.out j (by omega)
              case measure => simp [intOf]; omega
    · go_wp2
      go_ret
      refine ⟨RetB.t ?_, rfl⟩
      intro j hj
      exact hok j (by omega)

/-- Walking back at most 'fuel' times. -/
def hd (fs : List Int) : Nat → Nat → Int
  | 0, _ => -1
  | fuel + 1, k => if fs.getD k 0 < 0 then (k : Int) else hd fs fuel (fs.getD k 0).toNat

theorem head_any (a : Option Addr) (b n c k : Nat) (fs : List Int) (w : World) (hn : n ≤ 4096) (hl : n ≤ fs.length) (hk : k < n) (h : 0 < n → a = some ⟨b, 0, none⟩ ∧ IRow .i32 w b 21 fs)
    (hd1 : ∀ j, j < n → -2 ≤ fs.getD j 0 ∧ fs.getD j 0 < (n : Int)) :
    Calls Try.prog 44 #[.slice a n c, .int .i64 k] w fun e w' => e = .returned (.int .i64 (hd fs (n + 1) k)) ∧ w' = w := by
  obtain ⟨rfl, r⟩ := h (by omega)
  go_enter Try.func44, Try.ntmps44
  go_wp2
  go_loop [1, 5] (fun s i => ∃ (q j : Nat), j ≤ n + 1 ∧ i = .int .i64 j ∧ q < n ∧ s = .int .i64 q ∧ Hid (hd fs (n + 1 - j) q = hd fs (n + 1) k)) (fun _ i => n + 1 - (intOf i).toNat)
  case atStart => exact ⟨k, 0, Nat.zero_le _, rfl, hk, rfl, rfl⟩
  case round =>
    obtain ⟨q, j, hj, rfl, hq, rfl, hh⟩ := hrel
    by_cases hlt : j ≤ n
    · have g := r.cell q (by omega)
      have y := hd1 q hq
      have hst : hd fs (n + 1 - j) q = if fs.getD q 0 < 0 then (q : Int) else hd fs (n - j) (fs.getD q 0).toNat := by
        rw [show n + 1 - j = (n - j) + 1 by omega]; rfl
      obtain ⟨x, hx⟩ : ∃ x, fs.getD q 0 = x := ⟨_, rfl⟩
      rw [hx] at g y hst
      have HST : Hid (hd fs (n + 1 - j) q = if x < 0 then (q : Int) else hd fs (n - j) x.toNat) := hst
      clear hst hx
      by_cases hneg : x < 0
      · go_wp2
        go_ret
        refine ⟨?_, rfl⟩
        rw [← hh.out, HST.out, if_pos hneg]; rfl
      · obtain ⟨x, rfl⟩ : ∃ x' : Nat, x = x' := ⟨x.toNat, by omega⟩
        go_wp2
        go_round
        case rel =>
          refine ⟨x, j + 1, by omega, by go_num, by omega, rfl, ?_⟩
          unfold Hid
          rw [← hh.out, HST.out, if_neg hneg, show n + 1 - (j + 1) = n - j by omega]; rfl
        case measure => simp [intOf]; omega
    · have : j = n + 1 := by omega
      subst this
      go_wp2
      go_ret
      refine ⟨?_, rfl⟩
      rw [← hh.out, show n + 1 - (n + 1) = 0 by omega]; rfl

end Go.Proofs.Qxb6602514a.Ch
