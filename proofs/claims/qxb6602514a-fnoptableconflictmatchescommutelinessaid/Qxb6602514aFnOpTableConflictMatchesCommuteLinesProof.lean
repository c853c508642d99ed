/-
  'Rows.FnOpTableConflictMatchesCommuteLinesSaid', proved: the frame of the seat's shells, turned to this row; its walk out of 'law_6' (Qxb6602514aTbY).
-/
import Derived.Test.Qxb6602514aRows
import Derived.WalkKit
import Derived.ProofKit
import Derived.OpenShut
import Derived.ShutString
import Derived.ChangeOld
import Derived.Below
import Derived.Deep.Strs
import Derived.Test.Qxb6602514aTbY
namespace Go.Proofs.Qxb6602514a.fnOpTableConflictMatchesCommuteLines
open Go.ChangeShapes Go.WideShapes Go.ChangeAt Go.RowKit
open Go.ChangeMaps (open_string shut_string)
open Go.Proofs.Qxb6602514a.Tb
set_option linter.unusedVariables false

theorem own : ownKnob Try.prog.godebug = none := by kernel_rfl
theorem laidOut : laidOutB Try.prog = true := by kernel_rfl

/-- What the walk is told of a []string that came in. -/
def IsStrs (w : World) (a : Option Addr) (len cap : Nat) : Prop := len ≤ maxLen ∧ ∃ b off S, SIn w a len cap b off S

theorem walk (a0 : Option Addr) (len0 cap0 : Nat) (a1 : Option Addr) (len1 cap1 : Nat) (tn : Bool) (x y : ByteArray) (w : World) (w0 : IsStrs w a0 len0 cap0) (w1 : IsStrs w a1 len1 cap1) (hx : x.size ≤ maxLen) (hy : y.size ≤ maxLen) :
    Calls Try.prog 6 #[.slice a0 len0 cap0, .slice a1 len1 cap1, .bool tn, .string x, .string y] w fun e w' => e = .returned (.bool true) ∧ Below w.heap.size w w' := by
  obtain ⟨m0, b0, o0, S0, h0⟩ := w0
  obtain ⟨m1, b1, o1, S1, h1⟩ := w1
  exact law_6 a0 a1 len0 len1 cap0 cap1 b0 b1 o0 o1 tn x y S0 S1 w m0 m1 hx hy h0 h1

/-! ### THE ROW's STEP -/
set_option maxRecDepth 100000 in
theorem lifted (os : Go.Os) (started : os.Started) (H : Type) (enc : TypeId × Value → H) :
    ReturnsInHanded {} Try.checked os 6 .any (Rows.fnOpTableConflictMatchesCommuteLinesSpec.pre6 enc Try.prog Try.f6 Rows.fnOpTableConflictMatchesCommuteLinesRow.domain false) (Rows.fnOpTableConflictMatchesCommuteLinesSpec.post enc Try.prog Try.f6 false true false false) := by
  refine returnsInHanded_of_change (C := Try.checked) own started (by kernel_rfl) Try.func6
    (ChangeSpec.witness6 (enc := enc) (C := Try.checked) false ⟨#[], #[.slice none 0 0, .slice none 0 0, .bool false, .string ByteArray.empty, .string ByteArray.empty], []⟩ 8 (by kernel_rfl) (by kernel_rfl) (by kernel_rfl) (by kernel_rfl)) ?_
  intro W base args ds gs before hval0 hW hcnd _
  have hval : ∀ (j : Nat) t v, Try.f6.params[j]? = some t → args[j]? = some v → Value.okWide Try.prog W .any base t v := hval0
  have hW' := hW
  obtain ⟨p, q, hA0, hV, rfl, hfz, hnd⟩ := hW
  have hA : DataW.TrodAll enc Try.prog W 0 (fun _ => true) true Try.f6.params.toList args.toList ds p := hA0
  rw [Try.params6] at hA hval
  obtain ⟨v0, vs0, d0, ds0, p0, q0, hargs, rfl, rfl, h0, r0⟩ := trodAll_cons hA
  obtain ⟨v1, vs1, d1, ds1, p1, q1, rfl, rfl, rfl, h1, r1⟩ := trodAll_cons r0
  obtain ⟨v2, vs2, d2, ds2, p2, q2, rfl, rfl, rfl, h2, r2⟩ := trodAll_cons r1
  obtain ⟨v3, vs3, d3, ds3, p3, q3, rfl, rfl, rfl, h3, r3⟩ := trodAll_cons r2
  obtain ⟨v4, vs4, d4, ds4, p4, q4, rfl, rfl, rfl, h4, r4⟩ := trodAll_cons r3
  obtain ⟨rfl, rfl, rfl⟩ := trodAll_nil r4
  obtain rfl : args = #[v0, v1, v2, v3, v4] := by cases args; simp_all
  obtain ⟨rfl, rfl⟩ := trodVars_none hV
  obtain ⟨a0, len0, cap0, rfl⟩ := okWide_slice Try.underlying39 (hval 0 39 v0 rfl rfl)
  have k0 := h0
  have lt0 : ∀ x ∈ p0, x.block < W.heap.size := by obtain ⟨m, hm⟩ := k0; exact DataW.trod_lt m _ _ _ hm
  have w0 : IsStrs W a0 len0 cap0 := by
    obtain ⟨fuel, hf⟩ := h0
    rcases Go.Deep.open_strs Try.underlying39 Try.underlying9 (by kernel_rfl) hf with ⟨hcs, _⟩ | ⟨x, l, c, m, S, hcs, _, hl, hm, hmm, _, hrow⟩
    · simp [Value.cells] at hcs
      obtain ⟨rfl, rfl, rfl⟩ := hcs
      exact ⟨Nat.zero_le _, 0, 0, fun _ => ByteArray.empty, ⟨fun _ => ⟨rfl, rfl⟩, fun h => by omega, fun i h => by omega, fun i h => by omega⟩⟩
    · simp [Value.cells] at hcs
      obtain ⟨rfl, rfl, rfl⟩ := hcs
      have hlm : len0 ≤ m := by rw [hmm]; split <;> omega
      obtain ⟨b, off, spot⟩ := x
      have hspot : 0 < len0 → spot = none := fun hp => by simpa [Addr.add] using World.cell?_spot (hrow 0 (by omega)).1
      refine ⟨by omega, b, off, S, ⟨(fun h => by cases h), fun hp => by rw [hspot hp], fun i hi => ?_, fun i hi => (hrow i (by omega)).2⟩⟩
      have := (hrow i (by omega)).1
      rw [hspot (by omega), Addr.add_lit] at this
      exact this
  obtain ⟨a1, len1, cap1, rfl⟩ := okWide_slice Try.underlying39 (hval 1 39 v1 rfl rfl)
  have k1 := h1
  have lt1 : ∀ x ∈ p1, x.block < W.heap.size := by obtain ⟨m, hm⟩ := k1; exact DataW.trod_lt m _ _ _ hm
  have w1 : IsStrs W a1 len1 cap1 := by
    obtain ⟨fuel, hf⟩ := h1
    rcases Go.Deep.open_strs Try.underlying39 Try.underlying9 (by kernel_rfl) hf with ⟨hcs, _⟩ | ⟨x, l, c, m, S, hcs, _, hl, hm, hmm, _, hrow⟩
    · simp [Value.cells] at hcs
      obtain ⟨rfl, rfl, rfl⟩ := hcs
      exact ⟨Nat.zero_le _, 0, 0, fun _ => ByteArray.empty, ⟨fun _ => ⟨rfl, rfl⟩, fun h => by omega, fun i h => by omega, fun i h => by omega⟩⟩
    · simp [Value.cells] at hcs
      obtain ⟨rfl, rfl, rfl⟩ := hcs
      have hlm : len1 ≤ m := by rw [hmm]; split <;> omega
      obtain ⟨b, off, spot⟩ := x
      have hspot : 0 < len1 → spot = none := fun hp => by simpa [Addr.add] using World.cell?_spot (hrow 0 (by omega)).1
      refine ⟨by omega, b, off, S, ⟨(fun h => by cases h), fun hp => by rw [hspot hp], fun i hi => ?_, fun i hi => (hrow i (by omega)).2⟩⟩
      have := (hrow i (by omega)).1
      rw [hspot (by omega), Addr.add_lit] at this
      exact this
  obtain ⟨tn, rfl, rfl, rfl⟩ := open_bool Try.underlying4 (hval 2 4 v2 rfl rfl) h2
  obtain ⟨x, rfl, rfl, rfl, hx⟩ := open_string Try.underlying9 (hval 3 9 v3 rfl rfl) h3
  obtain ⟨y, rfl, rfl, rfl, hy⟩ := open_string Try.underlying9 (hval 4 9 v4 rfl rfl) h4
  clear hA0 hval0
  refine (walk a0 len0 cap0 a1 len1 cap1 tn x y W w0 w1 hx hy).mono fun e W' ⟨he, bel⟩ => ?_
  subst he
  exact ⟨_, rfl, _, _, _, [], _, [], hW', trodAll_mk1 (shut_bool Try.underlying4 _), (trodAll_cons_mk (Below.trod laidOut (by kernel_rfl) (of_decide_eq_true (by kernel_rfl)) k0 bel lt0) (trodAll_cons_mk (Below.trod laidOut (by kernel_rfl) (of_decide_eq_true (by kernel_rfl)) k1 bel lt1) (trodAll_cons_mk (shut_bool Try.underlying4 _) (trodAll_cons_mk (shut_string Try.underlying9 hx) (trodAll_cons_mk (shut_string Try.underlying9 hy) trodAll_mk0))))), rfl, bel.frame _, fun h => by cases h⟩

theorem over : Rows.fnOpTableConflictMatchesCommuteLinesRow.holds Try.pinned (OpenSpec.ofChange Rows.fnOpTableConflictMatchesCommuteLinesSpec) :=
  OpenClaim.holds_of_wide 6 Try.f6 rfl rfl rfl rfl rfl rfl rfl ⟨rfl, rfl, rfl, rfl, rfl⟩ rfl rfl rfl rfl rfl (by kernel_rfl) Try.func6 (by kernel_rfl)
    (of_decide_eq_true (by kernel_rfl)) (by unfold Func.isWrapper; first | (rw [if_pos (by decide +kernel)]; kernel_rfl) | (rw [if_neg (by decide +kernel)]; exact ⟨rfl, rfl⟩))
    (fun os started H enc _ => lifted os started H enc)

/-- ████ THE STATEMENT ████ -/
theorem proved : Rows.FnOpTableConflictMatchesCommuteLinesSaid := over
#print axioms proved
end Go.Proofs.Qxb6602514a.fnOpTableConflictMatchesCommuteLines
