import Derived.Test.Qxb6602514aBuild
import Derived.Test.Qxb6602514aAtom
import Derived.Test.Qxb6602514aGap
namespace Go.Proofs.Qxb6602514a
open Go.RowKit

/-- What a slice that owns its cells looks like to a reader. -/
theorem own_read {w : World} {base : Nat} {e : TypeId} {v : Value} {n : Nat} {xs : List Value} (h : w.ownsRow base e 1 v n xs) :
    ∃ oa cap g, v = .slice oa n cap ∧ (0 < n → oa = some ⟨g, 0, none⟩ ∧ v.ownBlock = some g ∧ base ≤ g ∧ g < w.heap.size ∧ ∀ j, j < n → w.cell? ⟨g, j, none⟩ = xs[j]?) := by
  rcases h.2 with ⟨rfl, rfl⟩ | ⟨g, cap, cur, rfl, hb, hg, h1, h2, h3, h4⟩
  · exact ⟨none, 0, 0, rfl, fun h => by omega⟩
  · refine ⟨_, cap, g, rfl, fun _ => ⟨rfl, rfl, hb, (Array.getElem?_eq_some_iff.1 hg).1, fun j hj => ?_⟩⟩
    exact h.cellAt j (by omega)

/-- Every observer's count is raised by d. -/
def addAll (ad : List Int) (os : List Int) (d : Int) : List Int := os.foldl (fun a o => a.set o.toNat (a.getD o.toNat 0 + d)) ad

theorem addAll_len (os : List Int) (d : Int) : ∀ ad : List Int, (addAll ad os d).length = ad.length := by
  induction os with
  | nil => intro ad; rfl
  | cons o os ih => intro ad; unfold addAll; rw [List.foldl_cons]; exact (ih _).trans (by simp)

theorem addAll_snoc (ad os : List Int) (o d : Int) : addAll ad (os ++ [o]) d = (addAll ad os d).set o.toNat ((addAll ad os d).getD o.toNat 0 + d) := by
  unfold addAll; rw [List.foldl_append]; rfl

theorem addAll_get (d : Int) : ∀ (os ad : List Int), (∀ o ∈ os, 0 ≤ o ∧ o < (ad.length : Int)) → ∀ u : Nat, u < ad.length → (addAll ad os d).getD u 0 = ad.getD u 0 + d * cnt os u := by
  intro os
  induction os with
  | nil => intro ad _ u hu; simp [addAll, cnt]
  | cons o os ih =>
    intro ad hos u hu
    have ho := hos o (by simp)
    have e : addAll ad (o :: os) d = addAll (ad.set o.toNat (ad.getD o.toNat 0 + d)) os d := by unfold addAll; rw [List.foldl_cons]
    rw [e, ih _ (fun o' h' => by simpa using hos o' (by simp [h'])) u (by simpa using hu)]
    by_cases hou : o.toNat = u
    · subst hou
      rw [getD_set_same _ _ _ (by omega)]
      have : cnt (o :: os) o.toNat = cnt os o.toNat + 1 := by
        unfold cnt
        rw [List.filter_cons, if_pos (by simp; omega)]
        simp
      rw [this, Int.mul_add]; omega
    · rw [getD_set_ne _ _ _ _ hou]
      have : cnt (o :: os) u = cnt os u := by
        unfold cnt
        rw [List.filter_cons, if_neg (by simp; omega)]
      rw [this]

set_option maxRecDepth 100000 in
set_option maxHeartbeats 1000000 in
theorem admit_any (w : World) (p base E A eb ab n m M : Nat) (d : Int) (ev : Value) (os ad : List Int) (hd1 : -1 ≤ d) (hd2 : d ≤ 1)
    (hE : w.cell? ⟨E, 0, none⟩ = some (.slice (some ⟨eb, 0, none⟩) n n)) (hA : w.cell? ⟨A, 0, none⟩ = some (.slice (some ⟨ab, 0, none⟩) m m)) (hp : p < n)
    (hev : w.cell? ⟨eb, p, none⟩ = some ev) (hown : w.ownsRow base 3 1 ev os.length (os.map (Value.int .i64))) (had : IRow .i64 w ab 3 ad) (hal : ad.length = m)
    (hos : ∀ o ∈ os, 0 ≤ o ∧ o < (m : Int)) (hM : ∀ u, u < m → -(M : Int) ≤ ad.getD u 0 ∧ ad.getD u 0 ≤ (M : Int)) (hML : M ≤ 1099511627776) (hol : os.length ≤ 1048576)
    (s2 : A ≠ ab) (s4 : ev.ownBlock ≠ some ab) :
    Calls Try.prog 59 #[.int .i64 p, .int .i64 d, .pointer (some ⟨E, 0, none⟩), .pointer (some ⟨A, 0, none⟩)] w fun e w' =>
      e = .returned (.tuple #[]) ∧ IRow .i64 w' ab 3 (addAll ad os d) ∧ w.grownBy w' (some ab) ∧ w'.heap.size = w.heap.size := by
  obtain ⟨oa, cap, g, rfl, hrd⟩ := own_read hown
  go_enter Try.func59, Try.ntmps59
  go_wp2
  go_loopw [13] (fun i wr => ∃ k : Nat, k ≤ os.length ∧ i = .int .i64 k ∧ IRow .i64 wr ab 3 (addAll ad (os.take k) d) ∧ w.grownBy wr (some ab) ∧ wr.heap.size = w.heap.size) (fun i _ => os.length - (intOf i).toNat)
  case atStart => exact ⟨0, Nat.zero_le _, rfl, had, World.grownBy.refl _ _, rfl⟩
  case round =>
    obtain ⟨k, hk, rfl, hir, hgr, hsr⟩ := hrel
    by_cases hlt : k < os.length
    · obtain ⟨rfl, hob, hbg, hgl, hcg⟩ := hrd (by omega)
      have hgab : g ≠ ab := fun e => s4 (by rw [hob, e])
      obtain ⟨o, ho⟩ : ∃ o : Nat, os.getD k 0 = o := by
        have := hos (os[k]'hlt) (List.getElem_mem _)
        exact ⟨(os.getD k 0).toNat, by simp [List.getD, hlt]; omega⟩
      have hom : o < m := by
        have := hos (os[k]'hlt) (List.getElem_mem _)
        simp [List.getD, hlt] at ho; omega
      have c1 : wr.cell? ⟨g, k, none⟩ = some (.int .i64 o) := by
        refine hgr.cell ?_ (by simp; omega)
        rw [hcg k hlt, ← ho]; simp [List.getD, hlt]
      have c2 : wr.cell? ⟨A, 0, none⟩ = some (.slice (some ⟨ab, 0, none⟩) m m) := hgr.cell hA (by simp; omega)
      have hlen := addAll_len (os.take k) d ad
      have c3 := hir.cell o (by omega)
      have f3 := Row.frozen hir o
      have hget := addAll_get d (os.take k) ad (fun o' h' => by rw [hal]; exact hos o' (List.mem_of_mem_take h')) o (by omega)
      have hc1 := cnt_nonneg (os.take k) o
      have hc2 := cnt_le (os.take k) o
      have hc3 : (os.take k).length ≤ k := List.length_take_le _ _
      have hMo := hM o hom
      obtain ⟨y, hy⟩ : ∃ y, (addAll ad (os.take k) d).getD o 0 = y := ⟨_, rfl⟩
      have hyb : -1099512676353 ≤ y ∧ y ≤ 1099512676353 := by
        rw [← hy, hget]
        rcases (show d = -1 ∨ d = 0 ∨ d = 1 by omega) with rfl | rfl | rfl <;> omega
      rw [hy] at c3
      have hst : addAll ad (os.take (k + 1)) d = (addAll ad (os.take k) d).set o (y + d) := by
        have : os.take (k + 1) = os.take k ++ [(o : Int)] := by
          rw [List.take_succ_eq_append_getElem hlt]; simp [List.getD, hlt] at ho; rw [ho]
        rw [this, addAll_snoc, Int.toNat_natCast, hy]
      have HS : Hid (addAll ad (os.take (k + 1)) d = (addAll ad (os.take k) d).set o (y + d)) := hst
      clear hst hy hget hc1 hc2 hc3 hlen ho
      obtain ⟨hy1, hy2⟩ := hyb
      go_wp2
      go_roundw
      case rel =>
        refine ⟨k + 1, by omega, by go_num, ?_, ?_, by simpa using hsr⟩
        · rw [HS.out]; exact hir.set o _
        · exact ⟨hgr.os, hgr.tape, hgr.output, by simp; omega, fun j hj hne => by rw [Below.heap_setCell _ _ _ _ (by intro e; apply hne; simp [e])]; exact hgr.block j hj hne⟩
      case measure => simp [intOf]; omega
    · have hkn : k = os.length := by omega
      go_wp2
      go_end0
      refine ⟨rfl, ?_, hgr, hsr⟩
      rw [hkn, List.take_length] at hir; exact hir

end Go.Proofs.Qxb6602514a
