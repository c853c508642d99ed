import Derived.Test.Qxb6602514aSerial
import Derived.Test.Qxb6602514aRel
import Derived.Deep.RegionHeld3
import Derived.Deep.RegionLaw
import Derived.Deep.DeepCutAuto
import Derived.Deep.DrawnRows
namespace Go.Proofs.Qxb6602514a
open Go.RowKit

theorem info111 : (Try.prog.info? 111).map (fun i => (i.zero, i.size, i.bytes)) = some (some (.agg #[.int .i64 0, .string ByteArray.empty, .int .i64 0, .int .i64 0]), 4, 40) := by kernel_rfl
theorem info9 : (Try.prog.info? 9).map (fun i => (i.zero, i.size, i.bytes)) = some (some (.string ByteArray.empty), 1, 16) := by kernel_rfl

/-- The cells of the first k of n steps. -/
structure StepCells (ids : List Int) (k n : Nat) (vs : List Value) : Prop where
  len : vs.length = n * 4
  c0 : ∀ i, i < k → vs[i * 4]? = some (.int .i64 (ids.getD i 0))
  c1 : ∀ i, i < k → vs[i * 4 + 1]? = some (.string { data := #[114] })
  c2 : ∀ i, i < k → vs[i * 4 + 2]? = some (.int .i64 0)
  c3 : ∀ i, i < k → vs[i * 4 + 3]? = some (.int .i64 ((i : Int) + 1))

theorem StepCells.step {ids : List Int} {k n : Nat} {vs : List Value} (h : StepCells ids k n vs) (hk : k < n) :
    StepCells ids (k + 1) n ((((vs.set (k * 4) (.int .i64 (ids.getD k 0))).set (k * 4 + 1) (.string { data := #[114] })).set (k * 4 + 2) (.int .i64 0)).set (k * 4 + 3) (.int .i64 ((k : Int) + 1))) := by
  have hl := h.len
  have l0 : k * 4 < vs.length := by omega
  have l1 : k * 4 + 1 < vs.length := by omega
  have l2 : k * 4 + 2 < vs.length := by omega
  have l3 : k * 4 + 3 < vs.length := by omega
  refine ⟨by simpa using hl, ?_, ?_, ?_, ?_⟩ <;>
  · intro i hi
    by_cases e : i = k
    · subst e; simp [l0, l1, l2, l3]
    · have n0 : ¬ k * 4 = i * 4 := by omega
      have n1 : ¬ k * 4 + 1 = i * 4 := by omega
      have n2 : ¬ k * 4 + 2 = i * 4 := by omega
      have n3 : ¬ k * 4 + 3 = i * 4 := by omega
      have m0 : ¬ k * 4 = i * 4 + 1 := by omega
      have m1 : ¬ k * 4 = i * 4 + 2 := by omega
      have m2 : ¬ k * 4 = i * 4 + 3 := by omega
      have p1 : ¬ k * 4 + 1 = i * 4 + 1 := by omega
      have p2 : ¬ k * 4 + 1 = i * 4 + 2 := by omega
      have p3 : ¬ k * 4 + 1 = i * 4 + 3 := by omega
      have q1 : ¬ k * 4 + 2 = i * 4 + 1 := by omega
      have q2 : ¬ k * 4 + 2 = i * 4 + 2 := by omega
      have q3 : ¬ k * 4 + 2 = i * 4 + 3 := by omega
      have r1 : ¬ k * 4 + 3 = i * 4 + 1 := by omega
      have r2 : ¬ k * 4 + 3 = i * 4 + 2 := by omega
      have r3 : ¬ k * 4 + 3 = i * 4 + 3 := by omega
      simp only [List.getElem?_set, n0, n1, n2, n3, m0, m1, m2, p1, p2, p3, q1, q2, q3, r1, r2, r3, if_false]
      first | exact h.c0 i (by omega) | exact h.c1 i (by omega) | exact h.c2 i (by omega) | exact h.c3 i (by omega)

/-- What zzHistory leaves: the steps, the names, the History. -/
def histSeg (B m n : Nat) (vs : List Value) : List (TypeId × List Value) :=
  [(111, vs), (9, List.replicate m (.string ByteArray.empty)), (116, [.slice (some ⟨B + 2, 0, none⟩) m m, .slice none 0 0, .slice (some ⟨B + 1, 0, none⟩) n n, .slice none 0 0, .slice none 0 0, .slice none 0 0, .slice none 0 0])]

set_option maxRecDepth 100000 in
set_option maxHeartbeats 1000000 in
theorem history_any (w : World) (m n bt bs bx bp bu mm : Nat) (ids : List Int) (hn : n ≤ 65536) (hm : m ≤ 65536) (hl : ids.length = n) (ht : IRow .i64 w bt 3 ids) :
    Calls Try.prog 47 #[.agg #[.int .i64 m, .slice (some ⟨bt, 0, none⟩) n n, .slice (some ⟨bs, 0, none⟩) m m, .slice (some ⟨bx, 0, none⟩) n n, .slice (some ⟨bp, 0, none⟩) n n, .slice (some ⟨bu, 0, none⟩) mm mm]] w fun e w' =>
      ∃ vs, e = .returned (.pointer (some ⟨w.heap.size + 3, 0, none⟩)) ∧ Below w.heap.size w w' ∧ w'.heap.size = w.heap.size + 4 ∧ Seg w' (w.heap.size + 1) (histSeg w.heap.size m n vs) ∧ StepCells ids n n vs := by
  have hbt := Row.lt ht
  go_enter Try.func47, Try.ntmps47
  go_wp2_with (first | (at_make; refine wpList_make_row _ rfl (.tmp 7) (.tmp 7) 109 rfl 111 (.agg #[.int .i64 0, .string ByteArray.empty, .int .i64 0, .int .i64 0]) 4 40 Try.underlying109 info111 _ _ _ _ n rfl rfl rfl rfl (by omega) (by unfold maxLen; omega) _ rfl (w.heap.size + 1) (by simp) ?_; intro w1 hrow1 hsz1 hbel1))
  have hsg0 : Seg w1 w.heap.size [(32, [.int .i64 m, .slice (some ⟨bt, 0, none⟩) n n, .slice (some ⟨bs, 0, none⟩) m m, .slice (some ⟨bx, 0, none⟩) n n, .slice (some ⟨bp, 0, none⟩) n n, .slice (some ⟨bu, 0, none⟩) mm mm]), (111, (madeCells (Value.agg #[.int .i64 0, .string ByteArray.empty, .int .i64 0, .int .i64 0]).cells (n * 4)).toList)] :=
    ((Seg.nil w _).pushAlloc (by simp) 32 _).push (by simp) hbel1 hrow1
  have hb0 : Below w.heap.size w w1 := ((Below.refl _ _).alloc (Nat.le_refl _) _).trans (hbel1.mono (by omega))
  have hml : (madeCells (Value.agg #[.int .i64 0, .string ByteArray.empty, .int .i64 0, .int .i64 0]).cells (n * 4)).toList.length = n * 4 := by rw [Array.length_toList, size_madeCells]
  go_loopw [4] (fun i wr => ∃ k : Nat, k ≤ n ∧ i = .int .i64 k ∧ Below w.heap.size w wr ∧ wr.heap.size = w.heap.size + 2 ∧
      ∃ vs, StepCells ids k n vs ∧ Seg wr w.heap.size [(32, [.int .i64 m, .slice (some ⟨bt, 0, none⟩) n n, .slice (some ⟨bs, 0, none⟩) m m, .slice (some ⟨bx, 0, none⟩) n n, .slice (some ⟨bp, 0, none⟩) n n, .slice (some ⟨bu, 0, none⟩) mm mm]), (111, vs)]) (fun i _ => n - (intOf i).toNat)
  case atStart => exact ⟨0, Nat.zero_le _, rfl, hb0, by simpa using hsz1, _, ⟨hml, fun i hi => by omega, fun i hi => by omega, fun i hi => by omega, fun i hi => by omega⟩, hsg0⟩
  case round =>
    clear hrow1 hsz1 hbel1 hsg0 hb0 hml
    obtain ⟨k, hk, rfl, hbr, hsr, vs, hvs, hsg⟩ := hrel
    have c1 : wr.cell? ⟨w.heap.size, 1, none⟩ = some (.slice (some ⟨bt, 0, none⟩) n n) := hsg.cell 0 rfl 1
    have c0 : wr.cell? ⟨w.heap.size, 0, none⟩ = some (.int .i64 m) := hsg.cell 0 rfl 0
    by_cases hlt : k < n
    · have g1 : wr.cell? ⟨bt, k, none⟩ = some (.int .i64 (ids.getD k 0)) := (hbr.cell (by exact hbt)).trans (ht.cell k (by omega))
      have hvl := hvs.len
      have r := hsg.row 1 rfl
      have s0 : wr.cell? ⟨w.heap.size + 1, k * 4, none⟩ = some (vs[k * 4]'(by omega)) := by rw [r.cell, List.getElem?_eq_getElem]
      have s1 : wr.cell? ⟨w.heap.size + 1, k * 4 + 1, none⟩ = some (vs[k * 4 + 1]'(by omega)) := by rw [r.cell, List.getElem?_eq_getElem]
      have s2 : wr.cell? ⟨w.heap.size + 1, k * 4 + 2, none⟩ = some (vs[k * 4 + 2]'(by omega)) := by rw [r.cell, List.getElem?_eq_getElem]
      have s3 : wr.cell? ⟨w.heap.size + 1, k * 4 + 3, none⟩ = some (vs[k * 4 + 3]'(by omega)) := by rw [r.cell, List.getElem?_eq_getElem]
      have fr := r.frozen
      have hst := hvs.step hlt
      rw [show ids.getD k 0 = ids[k]'(by omega) by simp [List.getD, hl, hlt]] at hst
      clear hvs
      go_wp2
      go_roundw
      case rel => exact ⟨k + 1, by omega, by go_num, (((hbr.setCell (by simp) _).setCell (by simp) _).setCell (by simp) _).setCell (by simp) _, by simpa using hsr, _, hst, (((hsg.set 1 rfl _ _).set 1 rfl _ _).set 1 rfl _ _).set 1 rfl _ _⟩
      case measure => simp [intOf]; omega
    · have hkn : n = k := by omega
      subst hkn
      go_wp2_with (first | (at_make; refine wpList_make_row _ rfl (.tmp 28) (.tmp 28) 39 rfl 9 (.string ByteArray.empty) 1 16 Try.underlying39 info9 _ _ _ _ m rfl rfl rfl rfl (by omega) (by unfold maxLen; omega) _ (made_one _ rfl m) (w.heap.size + 2) (by simp [hsr]) ?_; intro w2 hrow2 hsz2 hbel2))
      go_ret
      refine ⟨vs, rfl, ?_, by simpa using hsz2, ?_, hvs⟩
      · exact (hbr.trans (hbel2.mono (by omega))).alloc (by omega) _
      · exact ((hsg.push (by simp) hbel2 hrow2).pushAlloc (by simpa using hsz2) 116 _).drop 1

end Go.Proofs.Qxb6602514a
