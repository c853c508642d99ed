import Derived.Test.Qxb6604003aIt
set_option linter.unusedVariables false
namespace Go.Proofs.Qxb6604003a
open Go.RowKit

theorem root_any (w : World) (B : Nat) (v : Value) (h : w.cell? ⟨B, 0, none⟩ = some v) : Calls Try.prog 14 #[.pointer (some ⟨B, 0, none⟩)] w fun e w' => e = .returned v ∧ w' = w := by
  go_enter Try.func14, Try.ntmps14
  go_wp2
  go_ret
  exact ⟨rfl, rfl⟩
theorem isLeaf_any (w : World) (A : Nat) (a : Option Addr) (n c : Nat) (h : w.cell? ⟨A, 1, none⟩ = some (.slice a n c)) : Calls Try.prog 19 #[.pointer (some ⟨A, 0, none⟩)] w fun e w' => e = .returned (.bool a.isNone) ∧ w' = w := by
  have he := Lib.run_eql_slice_nil (P := Try.prog) w 57 61 a n c 0 0 Try.underlying57
  go_enter Try.func19, Try.ntmps19
  go_wp2
  go_ret
  exact ⟨rfl, rfl⟩
theorem numE_any (w : World) (A : Nat) (a : Option Addr) (n c : Nat) (h : w.cell? ⟨A, 0, none⟩ = some (.slice a n c)) : Calls Try.prog 33 #[.pointer (some ⟨A, 0, none⟩)] w fun e w' => e = .returned (.int .i64 n) ∧ w' = w := by
  go_enter Try.func33, Try.ntmps33
  go_wp2
  go_ret
  exact ⟨rfl, rfl⟩
theorem numC_any (w : World) (A : Nat) (a : Option Addr) (n c : Nat) (h : w.cell? ⟨A, 1, none⟩ = some (.slice a n c)) : Calls Try.prog 20 #[.pointer (some ⟨A, 0, none⟩)] w fun e w' => e = .returned (.int .i64 n) ∧ w' = w := by
  go_enter Try.func20, Try.ntmps20
  go_wp2
  go_ret
  exact ⟨rfl, rfl⟩
theorem entryKey_any (w : World) (A g m c i : Nat) (v : Value) (h : w.cell? ⟨A, 0, none⟩ = some (.slice (some ⟨g, 0, none⟩) m c)) (hi : i < m) (hv : w.cell? ⟨g, i * 2, none⟩ = some v) : Calls Try.prog 34 #[.pointer (some ⟨A, 0, none⟩), .int .i64 (i : Nat)] w fun e w' => e = .returned v ∧ w' = w := by
  go_enter Try.func34, Try.ntmps34
  go_wp2
  go_ret
  exact ⟨rfl, rfl⟩
theorem childLow_any (w : World) (A g m c i : Nat) (v : Value) (h : w.cell? ⟨A, 1, none⟩ = some (.slice (some ⟨g, 0, none⟩) m c)) (hi : i < m) (hv : w.cell? ⟨g, i * 2, none⟩ = some v) : Calls Try.prog 37 #[.pointer (some ⟨A, 0, none⟩), .int .i64 (i : Nat)] w fun e w' => e = .returned v ∧ w' = w := by
  go_enter Try.func37, Try.ntmps37
  go_wp2
  go_ret
  exact ⟨rfl, rfl⟩
theorem child_any (w : World) (A g m c i : Nat) (v : Value) (h : w.cell? ⟨A, 1, none⟩ = some (.slice (some ⟨g, 0, none⟩) m c)) (hi : i < m) (hv : w.cell? ⟨g, i * 2 + 1, none⟩ = some v) : Calls Try.prog 21 #[.pointer (some ⟨A, 0, none⟩), .int .i64 (i : Nat)] w fun e w' => e = .returned v ∧ w' = w := by
  go_enter Try.func21, Try.ntmps21
  go_wp2
  go_ret
  exact ⟨rfl, rfl⟩
theorem newIter_any (w : World) (a : Option Addr) (n c : Nat) : Calls Try.prog 38 #[.slice a n c] w fun e w' => e = .returned (.pointer (some ⟨w.heap.size, 0, none⟩)) ∧ w' = w.alloc (.cells #[.slice none 0 0, .slice a n c, .pointer none] 76) := by
  go_enter Try.func38, Try.ntmps38
  go_wp2
  go_ret
  exact ⟨rfl, rfl⟩
theorem hasCur_any (w : World) (IT : Nat) (a : Option Addr) (h : w.cell? ⟨IT, 2, none⟩ = some (.pointer a)) : Calls Try.prog 41 #[.pointer (some ⟨IT, 0, none⟩)] w fun e w' => e = .returned (.bool a.isSome) ∧ w' = w := by
  cases a with
  | none =>
    go_enter Try.func41, Try.ntmps41
    go_wp2
    go_ret
    exact ⟨rfl, rfl⟩
  | some x =>
    go_enter Try.func41, Try.ntmps41
    go_wp2
    go_ret
    exact ⟨rfl, rfl⟩
theorem stackLen_any (w : World) (IT : Nat) (a : Option Addr) (n c : Nat) (h : w.cell? ⟨IT, 0, none⟩ = some (.slice a n c)) : Calls Try.prog 42 #[.pointer (some ⟨IT, 0, none⟩)] w fun e w' => e = .returned (.int .i64 n) ∧ w' = w := by
  go_enter Try.func42, Try.ntmps42
  go_wp2
  go_ret
  exact ⟨rfl, rfl⟩
theorem curKey_any (w : World) (IT g j : Nat) (v : Value) (h : w.cell? ⟨IT, 2, none⟩ = some (.pointer (some ⟨g, j, none⟩))) (hv : w.cell? ⟨g, j, none⟩ = some v) : Calls Try.prog 43 #[.pointer (some ⟨IT, 0, none⟩)] w fun e w' => e = .returned v ∧ w' = w := by
  go_enter Try.func43, Try.ntmps43
  go_wp2
  go_ret
  exact ⟨rfl, rfl⟩
theorem curVal_any (w : World) (IT g j : Nat) (v : Value) (h : w.cell? ⟨IT, 2, none⟩ = some (.pointer (some ⟨g, j, none⟩))) (hv : w.cell? ⟨g, j + 1, none⟩ = some v) : Calls Try.prog 44 #[.pointer (some ⟨IT, 0, none⟩)] w fun e w' => e = .returned v ∧ w' = w := by
  go_enter Try.func44, Try.ntmps44
  go_wp2
  go_ret
  exact ⟨rfl, rfl⟩

/-- What push leaves. -/
def Pushed (w1 w wr : World) (base IT : Nat) (sv0 ev cv : Value) (st : List Value) (A i : Nat) (e : Ending) (w' : World) : Prop := e = .returned (.tuple #[]) ∧ ∃ sv', NI w1 w w' base IT sv0 sv' ev cv (st ++ [ptr A, .int .i64 (i : Nat)])

theorem push_any (w1 w wr : World) (base IT : Nat) (sv0 sv ev cv : Value) (st : List Value) (A i s : Nat) (hb1 : w1.heap.size = base) (h : NI w1 w wr base IT sv0 sv ev cv st) (hl : st.length = s * 2) (hs : s ≤ 60) :
    Calls Try.prog 39 #[.pointer (some ⟨IT, 0, none⟩), .pointer (some ⟨A, 0, none⟩), .int .i64 (i : Nat)] wr fun e w' => Pushed w1 w wr base IT sv0 ev cv st A i e w' := by
  have hsz : base ≤ wr.heap.size := by rw [← hb1]; exact h.bel.size
  have ho := h.is.own
  rw [show st.length / 2 = s by omega] at ho
  obtain ⟨oa, cap, hsv⟩ := own_form ho
  subst hsv
  have c0 : wr.cell? ⟨IT, 0, none⟩ = some (.slice oa s cap) := h.is.row.cell 0
  obtain ⟨i0, hi0, hz0, hz1, hz2⟩ := info_parts info78
  have ho4A := ho.alloc (.cells #[.pointer (some ⟨A, 0, none⟩), .int .i64 (i : Nat)] 78)
  have hszA : base ≤ (wr.alloc (.cells #[.pointer (some ⟨A, 0, none⟩), .int .i64 (i : Nat)] 78)).heap.size := by simp; omega
  go_enter Try.func39, Try.ntmps39
  go_wp2_with (at_builtin; refine wpList_append_lies _ rfl (.tmp 10) (.tmp 14) 73 rfl base 78 i0 _ 2 16 Try.underlying73 hi0 hz0 hz1 hz2 rfl (by omega) _ s _ (by rfl) ho4A ⟨wr.heap.size, 0, none⟩ 1 1 [.pointer (some ⟨A, 0, none⟩), .int .i64 (i : Nat)] (by rfl) (by rfl) (World.news_of_block (cs := #[.pointer (some ⟨A, 0, none⟩), .int .i64 (i : Nat)]) (t := 78) (fr := (0, 0)) (heap_alloc_new wr _)) (by simp [Value.oneCell']) (by omega) (by unfold maxLen; omega) (by omega) hszA (wr.heap.size + 1) (by simp) ?_; intro g5 cap5 w5 hown5 hgrow5 hat5 hlt5; have hp5 := h.push hsz hgrow5 hown5 (by simp; omega) (by rcases hat5 with h2 | h2; exact .inl h2; right; omega); have r5 := hp5.1; have a5 : w5.cell? ⟨IT, 0, none⟩ = some (.slice oa s cap) := r5.cell 0; have f5 := r5.frozen 0)
  go_end0
  exact ⟨rfl, _, hp5.2⟩

end Go.Proofs.Qxb6604003a
