/-
  No cell of these rows narrows 'for every input' (looked for: loops, veiled, ifaces, maps, wideKeys, modest, calm, conditions, laid).
  DERIVED. THE GIVEN ROWS OF THIS SEAT. 1 by the template 'for every input the law returns true; each argument reads behind the call as it read before'; 0 by the template 'total and deterministic' (their statements: Qxb6605260aTotals.lean).
  GIVEN WITH THE SEED: the statements are not yours to turn. If you find one false, say at which input.
  Laid BY PROGRAM, IN A SANDBOX (cutbox-rows.mjs): the forced cells as the released guide's own fill.sh prints them over the translation add2c14ac08d942a… (all of the seat's roots in one cut). By AI agents, Wed Nov 11 2026. No macro, syntax, notation, axiom, sorry.
-/
import Derived.Test.Qxb6605260aChecked
import GoSem.Claim
import GoSem.ClaimJoined
import GoSem.ClaimMapViews
import Derived.JoinedTies
import Derived.KernelRfl
namespace Go.Proofs.Qxb6605260a
/- THE CELL 'sum', in the pinned program and in every row, IS THE sha256 OF THE DUMP (.gsa) THAT Qxb6605260aProg.lean LOADS. Nothing in Lean hashes anything: it is a label: what it is worth is what the hold of that sum in a sandbox is worth. -/
noncomputable def Try.pinned : Pinned := { name := "qxb6605260a", sum := "add2c14ac08d942a9c339dd4aa5ca272cb458b5fc4adacbc043c81f8e16e8b32", checked := Try.checked }
namespace Rows
def none {H : Type} : Left H := { results := [], args := [] }

/-- 'zzlaws_cluster_b1.FnIDsSortedMergeUnderOrder': WHATEVER THE INPUT: true; the input reads as it did. -/
def fnIDsSortedMergeUnderOrderSpec : ChangeSpec := { name := "fnIDsSortedMergeUnderOrder", fn := fun _ => fun
  | [d1, d2] => { results := [.lit (.bool true)], args := [d1, d2] }
  | _ => none }
def fnIDsSortedMergeUnderOrderRow : OpenClaim := { program := "qxb6605260a", sum := "add2c14ac08d942a9c339dd4aa5ca272cb458b5fc4adacbc043c81f8e16e8b32", func := "example.com/kvorum/kvorum/zzlaws_cluster_b1.FnIDsSortedMergeUnderOrder", spec := "fnIDsSortedMergeUnderOrder", apart := false }
def FnIDsSortedMergeUnderOrderSaid : Prop := fnIDsSortedMergeUnderOrderRow.holds Try.pinned (OpenSpec.ofChange fnIDsSortedMergeUnderOrderSpec)

/-- ITS FALSE NEIGHBOUR: 'it returns false'. Refute it at one input. -/
def fnIDsSortedMergeUnderOrderWrong : ChangeSpec := { name := "fnIDsSortedMergeUnderOrder", fn := fun _ => fun
  | [d1, d2] => { results := [.lit (.bool false)], args := [d1, d2] }
  | _ => none }
def FnIDsSortedMergeUnderOrderWrongFalsely : Prop := fnIDsSortedMergeUnderOrderRow.holds Try.pinned (OpenSpec.ofChange fnIDsSortedMergeUnderOrderWrong)

end Rows
end Go.Proofs.Qxb6605260a
