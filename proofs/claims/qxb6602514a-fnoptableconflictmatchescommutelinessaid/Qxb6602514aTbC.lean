import Derived.Test.Qxb6602514aTbT
import Derived.BigRegion
import Derived.Deep.DeepCutAuto
import Derived.Deep.RegionHeld3
set_option linter.unusedVariables false
namespace Go.Proofs.Qxb6602514a.Tb
open Go.RowKit

theorem bel_to_drew {B : Nat} {a w : World} (h : Below B a w) : Below B a w.drew := h.trans ⟨rfl, rfl, rfl, Nat.le_refl _, fun _ _ => rfl⟩

theorem info72 : (Try.prog.info? 72).map (fun i => (i.zero, i.size, i.bytes)) = some (some (.agg #[.string ByteArray.empty, .string ByteArray.empty, .int .i64 0]), 3, 40) := by kernel_rfl

/-- The commute lines, as a reader sees them. -/
structure CIn (w : World) (b n : Nat) (S0 S1 : Nat → ByteArray) : Prop where
  f : ∀ i, i < n → w.cell? ⟨b, i * 3, none⟩ = some (.string (S0 i))
  t : ∀ i, i < n → w.cell? ⟨b, i * 3 + 1, none⟩ = some (.string (S1 i))
  l : ∀ i, i < n → ∃ z : Int, w.cell? ⟨b, i * 3 + 2, none⟩ = some (.int .i64 z)
  m0 : ∀ i, i < n → (S0 i).size ≤ maxLen
  m1 : ∀ i, i < n → (S1 i).size ≤ maxLen

theorem CIn.below {w w' : World} {b n : Nat} {S0 S1 : Nat → ByteArray} (h : CIn w b n S0 S1) (hb : Below w.heap.size w w') : CIn w' b n S0 S1 :=
  ⟨fun i hi => cellOf (h.f i hi) hb, fun i hi => cellOf (h.t i hi) hb, fun i hi => by obtain ⟨z, hz⟩ := h.l i hi; exact ⟨z, cellOf hz hb⟩, h.m0, h.m1⟩

theorem commutes_any (a0 a1 : Option Addr) (n0 n1 c0 c1 b0 b1 o0 o1 n : Nat) (S0 S1 : Nat → ByteArray) (w : World) (h0 : SIn w a0 n0 c0 b0 o0 S0) (h1 : SIn w a1 n1 c1 b1 o1 S1) (k0 : n ≤ n0) (k1 : n ≤ n1) (hn : n ≤ 256) :
    Calls Try.prog 27 #[.slice a0 n0 c0, .slice a1 n1 c1, .int .i64 n] w fun e w' => e = .returned (.slice (some ⟨w.heap.size, 0, none⟩) n n) ∧ CIn w' w.heap.size n S0 S1 ∧ Below w.heap.size w w' := by
  go_enter Try.func27, Try.ntmps27
  go_wp2_with (at_make; refine wpList_make_row _ rfl _ _ 45 rfl 72 _ 3 40 Try.underlying45 info72 _ _ _ _ n rfl rfl rfl rfl (by omega) (by unfold maxLen; omega) _ rfl _ rfl ?_; intro w1 hrow hsz hbel)
  go_loopw [8] (fun i wr => ∃ k : Nat, k ≤ n ∧ i = .int .i64 k ∧ Below w.heap.size w wr ∧ ∃ vs : List Value, vs.length = n * 3 ∧ Row wr w.heap.size 72 vs ∧ Hid (∀ j, j < k → vs[j * 3]? = some (.string (S0 j)) ∧ vs[j * 3 + 1]? = some (.string (S1 j)) ∧ ∃ z : Int, vs[j * 3 + 2]? = some (.int .i64 z))) (fun i _ => n - (intOf i).toNat)
  case atStart => exact ⟨0, Nat.zero_le _, rfl, hbel, _, by simp [size_madeCells], hrow, fun j hj => by omega⟩
  case round =>
    obtain ⟨k, hk, rfl, hbr, vs, hvl, hvr, hvz⟩ := hrel
    clear hrow hsz hbel
    by_cases hlt : k < n
    · obtain rfl := h0.at' (by omega)
      obtain rfl := h1.at' (by omega)
      have g0 : wr.cell? ⟨b0, o0 + k, none⟩ = some (.string (S0 k)) := cellOf (h0.cell k (by omega)) hbr
      have g1 : wr.cell? ⟨b1, o1 + k, none⟩ = some (.string (S1 k)) := cellOf (h1.cell k (by omega)) hbr
      have d0 : wr.cell? ⟨w.heap.size, k * 3, none⟩ = some (vs[k * 3]'(by omega)) := by rw [hvr.cell]; simp
      have d1 : wr.cell? ⟨w.heap.size, k * 3 + 1, none⟩ = some (vs[k * 3 + 1]'(by omega)) := by rw [hvr.cell]; simp
      have d2 : wr.cell? ⟨w.heap.size, k * 3 + 2, none⟩ = some (vs[k * 3 + 2]'(by omega)) := by rw [hvr.cell]; simp
      have f0 := hvr.frozen (k * 3)
      have f1 := hvr.frozen (k * 3 + 1)
      have f2 := hvr.frozen (k * 3 + 2)
      have j0 : (0 : Int) ≤ (k : Int) := by omega
      have j1 : (k : Int) < (n : Int) := by omega
      have j2 : (k : Int) < (n0 : Int) := by omega
      have j3 : (k : Int) < (n1 : Int) := by omega
      have hw1 : IntKind.i64.wrap ((k : Int) + 1) = (k : Int) + 1 := IntWalk.i64_in _ ⟨by omega, by omega⟩
      go_upto_region 5 with fail
      go_region
      go_wp2
      go_roundw
      case rel =>
        refine ⟨k + 1, by omega, by go_num, ?_, ((vs.set (k * 3) (.string (S0 k))).set (k * 3 + 1) (.string (S1 k))).set (k * 3 + 2) (.int .i64 ((k : Int) + 1)), by simpa using hvl, ?_, fun j hj => ?_⟩
        · exact bel_to_drew (((hbr.setCell (by simp) _).setCell (by simp) _).setCell (by simp) _)
        · exact ((hvr.set _ _).set _ _).set _ _
        · by_cases e : j = k
          · subst e
            refine ⟨?_, ?_, (j : Int) + 1, ?_⟩
            · rw [List.getElem?_set_ne (by omega), List.getElem?_set_ne (by omega), List.getElem?_set_self (by omega)]
            · rw [List.getElem?_set_ne (by omega), List.getElem?_set_self (by simp; omega)]
            · rw [List.getElem?_set_self (by simp; omega)]
          · obtain ⟨p1, p2, z, p3⟩ := hvz.out j (by omega)
            refine ⟨?_, ?_, z, ?_⟩
            · rw [List.getElem?_set_ne (by omega), List.getElem?_set_ne (by omega), List.getElem?_set_ne (by omega)]; exact p1
            · rw [List.getElem?_set_ne (by omega), List.getElem?_set_ne (by omega), List.getElem?_set_ne (by omega)]; exact p2
            · rw [List.getElem?_set_ne (by omega), List.getElem?_set_ne (by omega), List.getElem?_set_ne (by omega)]; exact p3
      case measure => simp [intOf]; omega
    · go_wp2
      go_ret
      refine ⟨rfl, ⟨fun i hi => (hvr.cell _).trans (hvz.out i (by omega)).1, fun i hi => (hvr.cell _).trans (hvz.out i (by omega)).2.1, fun i hi => ?_, fun i hi => h0.max i (by omega), fun i hi => h1.max i (by omega)⟩, hbr⟩
      obtain ⟨p1, p2, z, p3⟩ := hvz.out i (by omega)
      exact ⟨z, (hvr.cell _).trans p3⟩

set_option maxRecDepth 100000 in
theorem conf_any (w : World) (V pb n a b : Nat) (g : Int → Int → Bool) (hV : w.cell? ⟨V, 0, none⟩ = some (.map (some pb))) (hP : PM w pb n g) (ha : a < 600) (hb : b < 600) :
    Calls Try.prog 55 #[.int .i32 a, .int .i32 b, .pointer (some ⟨V, 0, none⟩)] w fun e w' => e = .returned (.bool ((a != 0 || b != 0) && !(g a b))) ∧ w' = w := by
  have e1 := hP.look (x := a) (y := b) (WalkArith.wf_i32 (by omega)) (WalkArith.wf_i32 (by omega))
  obtain ⟨q, hq⟩ : ∃ q, g a b = q := ⟨_, rfl⟩
  rw [hq] at e1
  rw [hq]
  by_cases h1 : a = 0
  · by_cases h2 : b = 0
    · subst h1
      subst h2
      go_enter Try.func55, Try.ntmps55
      go_wp2
      go_ret
      exact ⟨by simp, rfl⟩
    · subst h1
      rw [show ((0 : Nat) : Int) = 0 from rfl] at e1
      have i2 : ¬ ((b : Int) = 0) := by omega
      have i1 : ¬ (b = 0) := h2
      have i3 : ((b : Int) != 0) = true := by simpa using i1
      have i4 : (b != 0) = true := by simpa using i1
      go_enter Try.func55, Try.ntmps55
      go_wp2
      go_ret
      exact ⟨by simp [i4], rfl⟩
  · have i2 : ¬ ((a : Int) = 0) := by omega
    have i1 : ¬ (a = 0) := h1
    go_enter Try.func55, Try.ntmps55
    go_wp2
    go_ret
    exact ⟨by simp [i1], rfl⟩

end Go.Proofs.Qxb6602514a.Tb
