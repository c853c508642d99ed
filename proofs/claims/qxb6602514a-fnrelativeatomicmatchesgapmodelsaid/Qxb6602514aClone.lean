import Derived.Test.Qxb6602514aChecked
import Derived.Test.Qxb6602514aMem
import Derived.WalkLawsBesides
import Derived.WalkSpells
namespace Go.Proofs.Qxb6602514a
open Go.RowKit

theorem bytes1_any (a : Option Addr) (n c : Nat) (w : World) (hn : n ≤ maxLen) :
    Calls Try.prog 19 #[.slice a n c] w fun e w' => e = .returned (.bool (decide (n ≤ 1048576))) ∧ w' = w := by
  unfold maxLen at hn
  by_cases h : n ≤ 1048576
  · go_enter Try.func19, Try.ntmps19
    go_wp2
    go_ret
    simp [h]
  · go_enter Try.func19, Try.ntmps19
    go_wp2
    go_ret
    simp [h]

theorem info5 : (Try.prog.info? 5).map (fun i => (i.zero, i.size, i.bytes)) = some (some (.int .u8 0), 1, 1) := by kernel_rfl

theorem cloneBytes_nil (w : World) :
    Calls Try.prog 13 #[.slice none 0 0] w fun e w' => e = .returned (.slice none 0 0) ∧ w' = w := by
  have he := fun wx : World => Lib.run_eql_slice_nil (P := Try.prog) wx 22 5 none 0 0 0 0 Try.underlying22
  go_enter Try.func13, Try.ntmps13
  go_wp2
  go_ret
  exact ⟨rfl, rfl⟩

theorem ext_zs {zs vs : List Int} {n : Nat} (h1 : zs.length = n) (h2 : vs.length = n) (h : ∀ j, j < n → vs.getD j 0 = zs.getD j 0) : vs = zs := by
  apply List.ext_getElem (by omega)
  intro i hi hj
  have := h i (by omega)
  simpa [List.getD, hi, hj] using this

theorem cloneBytes_some (b off n c : Nat) (zs : List Int) (w : World) (hn : n ≤ 1048576) (hl : zs.length = n) (hb : 0 < n → b < w.heap.size)
    (hc : ∀ i, i < n → w.cell? ⟨b, off + i, none⟩ = some (.int .u8 (zs.getD i 0))) :
    Calls Try.prog 13 #[.slice (some ⟨b, off, none⟩) n c] w fun e w' => e = .returned (.slice (some ⟨w.heap.size, 0, none⟩) n n) ∧ IRow .u8 w' w.heap.size 5 zs ∧ w'.heap.size = w.heap.size + 1 ∧ Below w.heap.size w w' := by
  have he := fun wx : World => Lib.run_eql_slice_nil (P := Try.prog) wx 22 5 (some ⟨b, off, none⟩) n c 0 0 Try.underlying22
  go_enter Try.func13, Try.ntmps13
  go_wp2_with (at_make; refine wpList_make_row _ rfl _ _ 22 rfl 5 (.int .u8 0) 1 1 Try.underlying22 info5 _ _ _ _ n rfl rfl rfl rfl (by omega) (by unfold maxLen; omega) _ (made_one _ rfl n) _ rfl ?_; intro w1 hrow hsz hbel)
  go_loopw [4] (fun i wr => ∃ k : Nat, k ≤ n ∧ i = .int .i64 k ∧ wr.heap.size = w.heap.size + 1 ∧ Below w.heap.size w wr ∧ ∃ vs : List Int, vs.length = n ∧ IRow .u8 wr w.heap.size 5 vs ∧ ∀ j, j < k → vs.getD j 0 = zs.getD j 0) (fun i _ => n - (intOf i).toNat)
  case atStart => exact ⟨0, Nat.zero_le _, rfl, hsz, hbel, List.replicate n 0, by simp, by unfold IRow; simpa using hrow, by omega⟩
  case round =>
    obtain ⟨k, hk, rfl, hsr, hbr, vs, hvl, hvr, hvz⟩ := hrel
    clear hrow hsz hbel
    by_cases hlt : k < n
    · have g1 : wr.cell? ⟨b, off + k, none⟩ = some (.int .u8 (zs.getD k 0)) := (hbr.cell (by exact hb (by omega))).trans (hc k hlt)
      have g2 := hvr.cell k (by omega)
      have g3 := Row.frozen hvr k
      go_wp2
      go_roundw
      case rel =>
        refine ⟨k + 1, by omega, by go_num, by simpa using hsr, hbr.setCell (by simp) _, vs.set k (zs[k]'(by omega)), by simpa using hvl, ?_, ?_⟩
        · exact hvr.set k _
        · intro j hj
          by_cases e : j = k
          · subst e; simp [List.getD, hvl, hlt, hl]
          · have := hvz j (by omega)
            simpa [List.getD, List.getElem?_set, show ¬ k = j by omega] using this
      case measure => simp [intOf]; omega
    · go_wp2
      go_ret
      have : vs = zs := ext_zs hl hvl (fun j hj => hvz j (by omega))
      subst this
      exact ⟨rfl, hvr, hsr, hbr⟩

end Go.Proofs.Qxb6602514a
