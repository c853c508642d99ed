import Derived.Test.Qxb6602514aTbK
import Derived.BigQuiet
set_option linter.unusedVariables false
namespace Go.Proofs.Qxb6602514a.Tb
open Go.RowKit

theorem info77 : (Try.prog.info? 77).map (fun i => (i.zero, i.size, i.bytes)) = some (some (.int .u64 0), 1, 8) := by kernel_rfl

/-- A table in memory, as a reader sees it. -/
structure Tab (w : World) (T mb LB EB c : Nat) (f : ByteArray → Option Int) (cf : Nat → Nat → Bool) : Prop where
  lo : 2 ≤ c
  hi : c ≤ 520
  c0 : w.cell? ⟨T, 0, none⟩ = some (.map (some mb))
  c1 : w.cell? ⟨T, 1, none⟩ = some (.int .i64 c)
  c2 : w.cell? ⟨T, 2, none⟩ = some (.slice (some ⟨LB, 0, none⟩) c c)
  c3 : w.cell? ⟨T, 3, none⟩ = some (.slice (some ⟨EB, 0, none⟩) c c)
  km : ∃ n, KM w mb n f
  rng : ∀ s k, f s = some k → 0 ≤ k ∧ k < (c : Int)
  later : ∀ a, a < c → ∃ h, SetAt w LB (a * 2) h ((c - 1) / 64) (fun j => decide (j < c) && cf a j)
  earlier : ∀ a, a < c → ∃ h, SetAt w EB (a * 2) h ((c - 1) / 64) (fun j => decide (j < c) && cf j a)

theorem Tab.below {w w' : World} {T mb LB EB c : Nat} {f : ByteArray → Option Int} {cf : Nat → Nat → Bool} (h : Tab w T mb LB EB c f cf) (hb : Below w.heap.size w w') : Tab w' T mb LB EB c f cf := by
  refine ⟨h.lo, h.hi, cellOf h.c0 hb, cellOf h.c1 hb, cellOf h.c2 hb, cellOf h.c3 hb, ?_, h.rng, fun a ha => ?_, fun a ha => ?_⟩
  · obtain ⟨n, hk⟩ := h.km; exact ⟨n, hk.below hb hk.lt⟩
  · obtain ⟨g, hs⟩ := h.later a ha; exact ⟨g, hs.below hb⟩
  · obtain ⟨g, hs⟩ := h.earlier a ha; exact ⟨g, hs.below hb⟩

theorem kind_any (w : World) (T mb LB EB c : Nat) (f : ByteArray → Option Int) (cf : Nat → Nat → Bool) (s : ByteArray) (hs : s.size ≤ maxLen) (h : Tab w T mb LB EB c f cf) :
    Calls Try.prog 36 #[.pointer (some ⟨T, 0, none⟩), .string s] w fun e w' => e = .returned (.tuple #[.int .i64 ((f s).getD 0), .bool (f s).isSome]) ∧ w' = w := by
  obtain ⟨n, hk⟩ := h.km
  have e1 := hk.look_ok hs
  have c0 := h.c0
  have hr : 0 ≤ (f s).getD 0 ∧ (f s).getD 0 < 520 := by
    cases hf : f s with
    | none => simp
    | some k => have := h.rng s k hf; have := h.hi; simp; omega
  obtain ⟨v, hv⟩ : ∃ v, (f s).getD 0 = v := ⟨_, rfl⟩
  obtain ⟨o, ho⟩ : ∃ o, (f s).isSome = o := ⟨_, rfl⟩
  rw [hv, ho] at e1
  rw [hv] at hr
  rw [hv, ho]
  clear hv ho hk
  obtain ⟨r1, r2⟩ := hr
  go_enter Try.func36, Try.ntmps36
  go_wp2
  go_ret2
  exact ⟨rfl, rfl⟩

theorem count_any (w : World) (T mb LB EB c : Nat) (f : ByteArray → Option Int) (cf : Nat → Nat → Bool) (h : Tab w T mb LB EB c f cf) :
    Calls Try.prog 29 #[.pointer (some ⟨T, 0, none⟩)] w fun e w' => e = .returned (.int .i64 c) ∧ w' = w := by
  have c1 := h.c1
  go_enter Try.func29, Try.ntmps29
  go_wp2
  go_ret
  exact ⟨rfl, rfl⟩

theorem same_any (w : World) (T mb LB EB c T' mb' LB' EB' : Nat) (f : ByteArray → Option Int) (cf cf' : Nat → Nat → Bool) (s : ByteArray) (hs : s.size ≤ maxLen) (h : Tab w T mb LB EB c f cf) (h' : Tab w T' mb' LB' EB' c f cf') :
    Calls Try.prog 34 #[.pointer (some ⟨T, 0, none⟩), .pointer (some ⟨T', 0, none⟩), .string s] w fun e w' => e = .returned (.bool true) ∧ w' = w := by
  go_enter Try.func34, Try.ntmps34
  go_wp2_with fail
  refine (kind_any w T mb LB EB c f cf s hs h).mono ?_
  rintro e w' ⟨rfl, rfl⟩
  go_wp2_with fail
  refine (kind_any w' T' mb' LB' EB' c f cf' s hs h').mono ?_
  rintro e w ⟨rfl, rfl⟩
  obtain ⟨v, hv⟩ : ∃ v, (f s).getD 0 = v := ⟨_, rfl⟩
  obtain ⟨o, ho⟩ : ∃ o, (f s).isSome = o := ⟨_, rfl⟩
  rw [hv, ho]
  clear hv ho
  cases o with
  | true =>
    go_wp2
    go_ret
    simp
  | false =>
    go_wp2
    go_ret
    simp

theorem later_any (w : World) (T mb LB EB c a b : Nat) (f : ByteArray → Option Int) (cf : Nat → Nat → Bool) (h : Tab w T mb LB EB c f cf) (ha : a < c) (hb : b < c) :
    Calls Try.prog 31 #[.pointer (some ⟨T, 0, none⟩), .int .i64 a, .int .i64 b] w fun e w' => e = .returned (.bool (cf a b)) ∧ Below w.heap.size w w' := by
  obtain ⟨g, hs⟩ := h.later a ha
  have hs' := hs
  obtain ⟨lo, oa, k1, k2, k3, k4, -⟩ := hs'
  have c2 := h.c2
  have hc := h.hi
  have i0 : (0 : Int) ≤ (a : Int) := by omega
  have i1 : (a : Int) < (c : Int) := by omega
  have e50 : Calls Try.prog 50 #[.pointer (some ⟨T, 0, none⟩), .int .i64 a] w fun e w' => e = .returned (.tuple #[.int .u64 lo, .slice oa ((c - 1) / 64) ((c - 1) / 64)]) ∧ ∃ nq, w' = w.drewN nq := by
    go_enter Try.func50, Try.ntmps50
    go_wp2
    go_quiet (fail)
    go_wp2
    go_ret2
    exact ⟨rfl, _, rfl⟩
  go_enter Try.func31, Try.ntmps31
  go_wp2_with fail
  refine e50.mono ?_
  rintro e w' ⟨rfl, nq, rfl⟩
  go_wp2_with fail
  refine (has_any (w.drewN nq) LB (a * 2) g ((c - 1) / 64) (fun j => decide (j < c) && cf a j) b lo oa hs k2 k4 (by omega) (by omega)).mono ?_
  rintro e w' ⟨rfl, rfl⟩
  go_wp2
  go_ret
  exact ⟨by simp, ⟨rfl, rfl, rfl, Nat.le_refl _, fun _ _ => rfl⟩⟩

theorem earlier_any (w : World) (T mb LB EB c a b : Nat) (f : ByteArray → Option Int) (cf : Nat → Nat → Bool) (h : Tab w T mb LB EB c f cf) (ha : a < c) (hb : b < c) :
    Calls Try.prog 32 #[.pointer (some ⟨T, 0, none⟩), .int .i64 a, .int .i64 b] w fun e w' => e = .returned (.bool (cf b a)) ∧ Below w.heap.size w w' := by
  obtain ⟨g, hs⟩ := h.earlier a ha
  have hs' := hs
  obtain ⟨lo, oa, k1, k2, k3, k4, -⟩ := hs'
  have c3 := h.c3
  have hc := h.hi
  have i0 : (0 : Int) ≤ (a : Int) := by omega
  have i1 : (a : Int) < (c : Int) := by omega
  have e52 : Calls Try.prog 52 #[.pointer (some ⟨T, 0, none⟩), .int .i64 a] w fun e w' => e = .returned (.tuple #[.int .u64 lo, .slice oa ((c - 1) / 64) ((c - 1) / 64)]) ∧ ∃ nq, w' = w.drewN nq := by
    go_enter Try.func52, Try.ntmps52
    go_wp2
    go_quiet (fail)
    go_wp2
    go_ret2
    exact ⟨rfl, _, rfl⟩
  go_enter Try.func32, Try.ntmps32
  go_wp2_with fail
  refine e52.mono ?_
  rintro e w' ⟨rfl, nq, rfl⟩
  go_wp2_with fail
  refine (has_any (w.drewN nq) EB (a * 2) g ((c - 1) / 64) (fun j => decide (j < c) && cf j a) b lo oa hs k2 k4 (by omega) (by omega)).mono ?_
  rintro e w' ⟨rfl, rfl⟩
  go_wp2
  go_ret
  exact ⟨by simp, ⟨rfl, rfl, rfl, Nat.le_refl _, fun _ _ => rfl⟩⟩

/-- What newSet hands back: an empty set, its high words (nh of them) in a block of its own. -/
def SetNew (w : World) (nh : Nat) (e : Ending) (w' : World) : Prop := ∃ oa h, e = .returned (.agg #[.int .u64 0, .slice oa nh nh]) ∧ w.heap.size ≤ h ∧ h < w'.heap.size ∧ (0 < nh → oa = some ⟨h, 0, none⟩ ∧ Row w' h 77 (List.replicate nh (.int .u64 0))) ∧ Below w.heap.size w w'

theorem newSet_any (w : World) (T c : Nat) (c1 : w.cell? ⟨T, 1, none⟩ = some (.int .i64 c)) (h2 : 2 ≤ c) (hc : c ≤ 520) :
    Calls Try.prog 56 #[.pointer (some ⟨T, 0, none⟩)] w fun e w' => SetNew w ((c - 1) / 64) e w' := by
  have hTl := World.block_lt_of_cell? w _ c1
  simp at hTl
  by_cases h64 : c ≤ 64
  · have hseg := ((Seg.nil w w.heap.size).pushAlloc rfl 121 #[Value.int .u64 0, .slice none 0 0]).pushAlloc (by simp) 121 #[Value.int .u64 0, .slice none 0 0]
    have d0 := hseg.cell 0 rfl 0
    have d1 := hseg.cell 0 rfl 1
    have hn : (c - 1) / 64 = 0 := by omega
    rw [hn]
    simp at d0 d1
    go_enter Try.func56, Try.ntmps56
    go_wp2
    refine bodyPost_ret (v := .agg #[.int .u64 0, .slice none 0 0]) (by simp [results, Try.results56, go_sem]) rfl ⟨none, w.heap.size, rfl, Nat.le_refl _, by simp; omega, fun h => by omega, ((Below.refl _ _).alloc (Nat.le_refl _) _).alloc (by simp) _⟩
  · go_enter Try.func56, Try.ntmps56
    go_wp2_with (at_make; refine wpList_make_row _ rfl _ _ 78 rfl 77 (.int .u64 0) 1 8 Try.underlying78 info77 _ _ _ _ ((c - 1) / 64) rfl rfl (by omega) (by omega) (by omega) (by unfold maxLen; omega) _ (made_one _ rfl _) (w.heap.size + 2) (by simp) ?_; intro w1 hrow hsz hbel; have hseg := (((Seg.nil w w.heap.size).pushAlloc rfl 121 #[Value.int .u64 0, .slice none 0 0]).pushAlloc (by simp) 121 #[Value.int .u64 0, .slice none 0 0]).push (H := w.heap.size + 2) (by simp) hbel hrow; have d0 := hseg.cell 0 rfl 0; have d1 := hseg.cell 0 rfl 1; have d2 := hseg.cell 1 rfl 0; have d3 := hseg.cell 1 rfl 1; have f0 := hseg.frozen 0 (by simp) 0; have f1 := hseg.frozen 0 (by simp) 1; have f2 := hseg.frozen 1 (by simp) 0; have f3 := hseg.frozen 1 (by simp) 1; simp at d0 d1 d2 d3 f0 f1; have hb0 : Below w.heap.size w w1 := (((Below.refl _ _).alloc (Nat.le_refl _) _).alloc (by simp) _).trans (hbel.mono (by omega)))
    refine bodyPost_ret (v := .agg #[.int .u64 0, .slice (some ⟨w.heap.size + 2, 0, none⟩) ((c - 1) / 64) ((c - 1) / 64)]) (by simp [results, Try.results56, go_sem, d0, d1]) rfl ⟨_, w.heap.size + 2, rfl, by omega, by simp; omega, fun h => ⟨rfl, ?_⟩, ((hb0.setCell (by simp) _).setCell (by simp) _).setCell (by simp) _⟩
    exact ((hrow.set_ne (by simp) _).set_ne (by simp) _).set_ne (by simp) _

end Go.Proofs.Qxb6602514a.Tb
