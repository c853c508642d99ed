/-
  'Rows.FnIDsSortedMergeUnderOrderSaid', proved: the frame of the shells, turned to this row; its walk out of 'law_3' (Qxb6605260aB).
-/
import Derived.Test.Qxb6605260aRows
import Derived.WalkKit
import Derived.ProofKit
import Derived.OpenShut
import Derived.ShutString
import Derived.ChangeOld
import Derived.Below
import Derived.Deep.Slices
import Derived.Test.Qxb6605260aB
namespace Go.Proofs.Qxb6605260a.fnIDsSortedMergeUnderOrder
open Go.ChangeShapes Go.WideShapes Go.ChangeAt Go.RowKit
set_option linter.unusedVariables false

theorem own : ownKnob Try.prog.godebug = none := by kernel_rfl
theorem laidOut : laidOutB Try.prog = true := by kernel_rfl
theorem cells22 : Try.prog.cellsOf 22 = 1 := by kernel_rfl
theorem cells26 : Try.prog.cellsOf 26 = 3 := by kernel_rfl
theorem cells9 : Try.prog.cellsOf 9 = 1 := by kernel_rfl
theorem cells4 : Try.prog.cellsOf 4 = 1 := by kernel_rfl

/-- A slice of nodes, opened. -/
theorem open_nodes {H : Type} {enc : TypeId × Value → H} {w : World} {base : Nat} {spare : Nat → Bool} {held : Bool} {fuel : Nat} {cs : List Value} {x : DataW H × List MemPlace} (h : DataW.trod enc Try.prog w base spare held fuel 23 cs = some x) :
    cs = [.slice none 0 0] ∨ ∃ (a : Addr) (len cap : Nat) (q : Nat → Int × ByteArray × Bool), cs = [.slice (some a) len cap] ∧ len ≤ cap ∧ cap ≤ maxLen ∧
      ∀ i, i < len → w.cell? (a.add (i * 3)) = some (.int .u64 (q i).1) ∧ w.cell? (a.add (i * 3 + 1)) = some (.string (q i).2.1) ∧ w.cell? (a.add (i * 3 + 2)) = some (.bool (q i).2.2) ∧ (q i).2.1.size ≤ maxLen := by
  rcases Go.Deep.open_slice Try.underlying23 h with h0 | ⟨a, len, cap, m, n, D, Pl, rfl, hb, hl, hm, hmm, rfl, hx⟩
  · exact Or.inl h0.1
  right
  have hlm : len ≤ m := by rw [hmm]; split <;> omega
  have each : ∀ i, i < len → ∃ q : Int × ByteArray × Bool, w.cell? (a.add (i * 3)) = some (.int .u64 q.1) ∧ w.cell? (a.add (i * 3 + 1)) = some (.string q.2.1) ∧ w.cell? (a.add (i * 3 + 2)) = some (.bool q.2.2) ∧ q.2.1.size ≤ maxLen := by
    intro i hi
    obtain ⟨cs', h1, h2⟩ := hx i (by omega)
    rw [cells26] at h1
    obtain ⟨_, hlen, hcell⟩ := World.cells?_some h1
    obtain ⟨xs, k, hk, hxy, _, hxl, hf⟩ := DataW.trod_struct Try.underlying26 h2
    match xs, hxl, cs', hlen with
    | [y0, y1, y2], _, [v0, v1, v2], _ =>
      have g0 := hf 0 _ rfl
      have g1 := hf 1 _ rfl
      have g2 := hf 2 _ rfl
      simp [cells22, cells9, cells4] at g0 g1 g2
      have e0 := hcell 0 (by omega)
      have e1 := hcell 1 (by omega)
      have e2 := hcell 2 (by omega)
      rw [Go.Deep.add_add] at e0 e1 e2
      obtain ⟨z, hz, -, -⟩ := DataW.trod_int Try.underlying22 g0
      obtain ⟨s, hs, -, hm⟩ := DataW.trod_string Try.underlying9 g1
      obtain ⟨b, hbb, -⟩ := DataW.trod_bool Try.underlying4 g2
      simp at hz hs hbb
      subst hz
      subst hs
      subst hbb
      exact ⟨(z, s, b), by simpa using e0, by simpa using e1, by simpa using e2, hm⟩
  obtain ⟨q, hq⟩ := Go.Deep.choose_lt each
  exact ⟨a, len, cap, q, rfl, hl, hm, hq⟩

/-- What the walk is told of the members that came in. -/
def IsNodes (w : World) (a : Option Addr) (len cap : Nat) : Prop := len ≤ maxLen ∧ ∃ b off I S V, NIn w a len cap b off I S V

theorem walk (cfg : Int) (a : Option Addr) (len cap : Nat) (w : World) (w0 : IsNodes w a len cap) :
    Calls Try.prog 3 #[.int .u64 cfg, .slice a len cap] w fun e w' => e = .returned (.bool true) ∧ Below w.heap.size w w' := by
  obtain ⟨m0, b, o, I, S, V, h⟩ := w0
  exact law_3 cfg a len cap b o I S V w m0 h

/-! ### THE ROW's STEP -/
set_option maxRecDepth 100000 in
theorem lifted (os : Go.Os) (started : os.Started) (H : Type) (enc : TypeId × Value → H) :
    ReturnsInHanded {} Try.checked os 3 .any (Rows.fnIDsSortedMergeUnderOrderSpec.pre6 enc Try.prog Try.f3 Rows.fnIDsSortedMergeUnderOrderRow.domain false) (Rows.fnIDsSortedMergeUnderOrderSpec.post enc Try.prog Try.f3 false true false false) := by
  refine returnsInHanded_of_change (C := Try.checked) own started (by kernel_rfl) Try.func3
    (ChangeSpec.witness6 (enc := enc) (C := Try.checked) false ⟨#[], #[.int .u64 0, .slice none 0 0], []⟩ 8 (by kernel_rfl) (by kernel_rfl) (by kernel_rfl) (by kernel_rfl)) ?_
  intro W base args ds gs before hval0 hW hcnd _
  have hval : ∀ (j : Nat) t v, Try.f3.params[j]? = some t → args[j]? = some v → Value.okWide Try.prog W .any base t v := hval0
  have hW' := hW
  obtain ⟨p, q, hA0, hV, rfl, hfz, hnd⟩ := hW
  have hA : DataW.TrodAll enc Try.prog W 0 (fun _ => true) true Try.f3.params.toList args.toList ds p := hA0
  rw [Try.params3] at hA hval
  obtain ⟨v0, vs0, d0, ds0, p0, q0, hargs, rfl, rfl, h0, r0⟩ := trodAll_cons hA
  obtain ⟨v1, vs1, d1, ds1, p1, q1, rfl, rfl, rfl, h1, r1⟩ := trodAll_cons r0
  obtain ⟨rfl, rfl, rfl⟩ := trodAll_nil r1
  obtain rfl : args = #[v0, v1] := by cases args; simp_all
  obtain ⟨rfl, rfl⟩ := trodVars_none hV
  obtain ⟨cfg, rfl, rfl, rfl, hcfg⟩ := open_int Try.underlying22 (hval 0 22 v0 rfl rfl) h0
  obtain ⟨a1, len1, cap1, rfl⟩ := okWide_slice Try.underlying23 (hval 1 23 v1 rfl rfl)
  have k1 := h1
  have lt1 : ∀ x ∈ p1, x.block < W.heap.size := by obtain ⟨m, hm⟩ := k1; exact DataW.trod_lt m _ _ _ hm
  have w1 : IsNodes W a1 len1 cap1 := by
    obtain ⟨fuel, hf⟩ := h1
    rcases open_nodes hf with hcs | ⟨x, l, c, q, hcs, hl, hm, hrow⟩
    · simp [Value.cells] at hcs
      obtain ⟨rfl, rfl, rfl⟩ := hcs
      exact ⟨Nat.zero_le _, 0, 0, fun _ => 0, fun _ => ByteArray.empty, fun _ => false, nin_nil _ _ _ _⟩
    · simp [Value.cells] at hcs
      obtain ⟨rfl, rfl, rfl⟩ := hcs
      obtain ⟨b, off, spot⟩ := x
      have hspot : 0 < len1 → spot = none := fun hp => by simpa [Addr.add] using World.cell?_spot (hrow 0 (by omega)).1
      refine ⟨by omega, b, off, fun i => (q i).1, fun i => (q i).2.1, fun i => (q i).2.2, ⟨(fun h => by cases h), fun hp => by rw [hspot hp], fun i hi => ?_, fun i hi => ?_, fun i hi => ?_, fun i hi => (hrow i hi).2.2.2⟩⟩
      · have := (hrow i hi).1
        rw [hspot (by omega), Addr.add_lit] at this
        exact this
      · have := (hrow i hi).2.1
        rw [hspot (by omega), Addr.add_lit] at this
        exact this
      · have := (hrow i hi).2.2.1
        rw [hspot (by omega), Addr.add_lit] at this
        exact this
  clear hA0 hval0
  refine (walk cfg a1 len1 cap1 W w1).mono fun e W' ⟨he, bel⟩ => ?_
  subst he
  exact ⟨_, rfl, _, _, _, [], _, [], hW', trodAll_mk1 (shut_bool Try.underlying4 _), (trodAll_cons_mk (shut_int Try.underlying22 hcfg) (trodAll_cons_mk (Below.trod laidOut (by kernel_rfl) (of_decide_eq_true (by kernel_rfl)) k1 bel lt1) trodAll_mk0)), rfl, bel.frame _, fun h => by cases h⟩

theorem over : Rows.fnIDsSortedMergeUnderOrderRow.holds Try.pinned (OpenSpec.ofChange Rows.fnIDsSortedMergeUnderOrderSpec) :=
  OpenClaim.holds_of_wide 3 Try.f3 rfl rfl rfl rfl rfl rfl rfl ⟨rfl, rfl, rfl, rfl, rfl⟩ rfl rfl rfl rfl rfl (by kernel_rfl) Try.func3 (by kernel_rfl)
    (of_decide_eq_true (by kernel_rfl)) (by unfold Func.isWrapper; first | (rw [if_pos (by decide +kernel)]; kernel_rfl) | (rw [if_neg (by decide +kernel)]; exact ⟨rfl, rfl⟩))
    (fun os started H enc _ => lifted os started H enc)

/-- ████ THE STATEMENT ████ -/
theorem proved : Rows.FnIDsSortedMergeUnderOrderSaid := over
#print axioms proved
end Go.Proofs.Qxb6605260a.fnIDsSortedMergeUnderOrder
