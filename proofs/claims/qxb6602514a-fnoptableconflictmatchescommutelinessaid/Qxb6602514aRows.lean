/-
  No cell of these rows narrows 'for every input' (looked for: loops, veiled, ifaces, maps, wideKeys, modest, calm, conditions, laid).
  DERIVED. THE GIVEN ROWS OF THIS SEAT. 8 by the template 'for every input the law returns true; each argument reads behind the call as it read before'; 0 by the template 'total and deterministic' (their statements: Qxb6602514aTotals.lean).
  GIVEN WITH THE SEED: the statements are not yours to turn. If you find one false, say at which input.
  Laid BY PROGRAM, IN A SANDBOX (cutbox-rows.mjs): the forced cells as the released guide's own fill.sh prints them over the translation 7cf5a7a82513b610… (all of the seat's roots in one cut). By AI agents, Wed Nov 11 2026. No macro, syntax, notation, axiom, sorry.
-/
import Derived.Test.Qxb6602514aChecked
import GoSem.Claim
import GoSem.ClaimJoined
import GoSem.ClaimMapViews
import Derived.JoinedTies
import Derived.KernelRfl
namespace Go.Proofs.Qxb6602514a
/- THE CELL 'sum', in the pinned program and in every row, IS THE sha256 OF THE DUMP (.gsa) THAT Qxb6602514aProg.lean LOADS. Nothing in Lean hashes anything: it is a label: what it is worth is what the hold of that sum in a sandbox is worth. -/
noncomputable def Try.pinned : Pinned := { name := "qxb6602514a", sum := "7cf5a7a82513b610a1c3618315eeaa056b07fc52efcdd78614550030f80c31f2", checked := Try.checked }
namespace Rows
def none {H : Type} : Left H := { results := [], args := [] }

/-- 'zzlaws_root_b1.FnRelativeAtomicMatchesGapModel': WHATEVER THE INPUT: true; the input reads as it did. -/
def fnRelativeAtomicMatchesGapModelSpec : ChangeSpec := { name := "fnRelativeAtomicMatchesGapModel", fn := fun _ => fun
  | [d1, d2, d3, d4] => { results := [.lit (.bool true)], args := [d1, d2, d3, d4] }
  | _ => none }
def fnRelativeAtomicMatchesGapModelRow : OpenClaim := { program := "qxb6602514a", sum := "7cf5a7a82513b610a1c3618315eeaa056b07fc52efcdd78614550030f80c31f2", func := "example.com/breakset/breakset/zzlaws_root_b1.FnRelativeAtomicMatchesGapModel", spec := "fnRelativeAtomicMatchesGapModel", unfollowed := true, recurses := true, plainKeys := false, apart := false }
def FnRelativeAtomicMatchesGapModelSaid : Prop := fnRelativeAtomicMatchesGapModelRow.holds Try.pinned (OpenSpec.ofChange fnRelativeAtomicMatchesGapModelSpec)

/-- ITS FALSE NEIGHBOUR: 'it returns false'. Refute it at one input. -/
def fnRelativeAtomicMatchesGapModelWrong : ChangeSpec := { name := "fnRelativeAtomicMatchesGapModel", fn := fun _ => fun
  | [d1, d2, d3, d4] => { results := [.lit (.bool false)], args := [d1, d2, d3, d4] }
  | _ => none }
def FnRelativeAtomicMatchesGapModelWrongFalsely : Prop := fnRelativeAtomicMatchesGapModelRow.holds Try.pinned (OpenSpec.ofChange fnRelativeAtomicMatchesGapModelWrong)

/-- 'zzlaws_root_b1.FnRelativeAtomicWithoutUnitsIsSerial': WHATEVER THE INPUT: true; the input reads as it did. -/
def fnRelativeAtomicWithoutUnitsIsSerialSpec : ChangeSpec := { name := "fnRelativeAtomicWithoutUnitsIsSerial", fn := fun _ => fun
  | [d] => { results := [.lit (.bool true)], args := [d] }
  | _ => none }
def fnRelativeAtomicWithoutUnitsIsSerialRow : OpenClaim := { program := "qxb6602514a", sum := "7cf5a7a82513b610a1c3618315eeaa056b07fc52efcdd78614550030f80c31f2", func := "example.com/breakset/breakset/zzlaws_root_b1.FnRelativeAtomicWithoutUnitsIsSerial", spec := "fnRelativeAtomicWithoutUnitsIsSerial", unfollowed := true, recurses := true, plainKeys := false, apart := false }
def FnRelativeAtomicWithoutUnitsIsSerialSaid : Prop := fnRelativeAtomicWithoutUnitsIsSerialRow.holds Try.pinned (OpenSpec.ofChange fnRelativeAtomicWithoutUnitsIsSerialSpec)

/-- ITS FALSE NEIGHBOUR: 'it returns false'. Refute it at one input. -/
def fnRelativeAtomicWithoutUnitsIsSerialWrong : ChangeSpec := { name := "fnRelativeAtomicWithoutUnitsIsSerial", fn := fun _ => fun
  | [d] => { results := [.lit (.bool false)], args := [d] }
  | _ => none }
def FnRelativeAtomicWithoutUnitsIsSerialWrongFalsely : Prop := fnRelativeAtomicWithoutUnitsIsSerialRow.holds Try.pinned (OpenSpec.ofChange fnRelativeAtomicWithoutUnitsIsSerialWrong)

/-- 'zzlaws_root_b1.FnRelativeAtomicMoreUnitEndsKeepAtomic': WHATEVER THE INPUT: true; the input reads as it did. -/
def fnRelativeAtomicMoreUnitEndsKeepAtomicSpec : ChangeSpec := { name := "fnRelativeAtomicMoreUnitEndsKeepAtomic", fn := fun _ => fun
  | [d1, d2, d3, d4, d5] => { results := [.lit (.bool true)], args := [d1, d2, d3, d4, d5] }
  | _ => none }
def fnRelativeAtomicMoreUnitEndsKeepAtomicRow : OpenClaim := { program := "qxb6602514a", sum := "7cf5a7a82513b610a1c3618315eeaa056b07fc52efcdd78614550030f80c31f2", func := "example.com/breakset/breakset/zzlaws_root_b1.FnRelativeAtomicMoreUnitEndsKeepAtomic", spec := "fnRelativeAtomicMoreUnitEndsKeepAtomic", unfollowed := true, recurses := true, plainKeys := false, apart := false }
def FnRelativeAtomicMoreUnitEndsKeepAtomicSaid : Prop := fnRelativeAtomicMoreUnitEndsKeepAtomicRow.holds Try.pinned (OpenSpec.ofChange fnRelativeAtomicMoreUnitEndsKeepAtomicSpec)

/-- ITS FALSE NEIGHBOUR: 'it returns false'. Refute it at one input. -/
def fnRelativeAtomicMoreUnitEndsKeepAtomicWrong : ChangeSpec := { name := "fnRelativeAtomicMoreUnitEndsKeepAtomic", fn := fun _ => fun
  | [d1, d2, d3, d4, d5] => { results := [.lit (.bool false)], args := [d1, d2, d3, d4, d5] }
  | _ => none }
def FnRelativeAtomicMoreUnitEndsKeepAtomicWrongFalsely : Prop := fnRelativeAtomicMoreUnitEndsKeepAtomicRow.holds Try.pinned (OpenSpec.ofChange fnRelativeAtomicMoreUnitEndsKeepAtomicWrong)

/-- 'zzlaws_root_b1.FnOpTableConflictMatchesCommuteLines': WHATEVER THE INPUT: true; the input reads as it did. -/
def fnOpTableConflictMatchesCommuteLinesSpec : ChangeSpec := { name := "fnOpTableConflictMatchesCommuteLines", fn := fun _ => fun
  | [d1, d2, d3, d4, d5] => { results := [.lit (.bool true)], args := [d1, d2, d3, d4, d5] }
  | _ => none }
def fnOpTableConflictMatchesCommuteLinesRow : OpenClaim := { program := "qxb6602514a", sum := "7cf5a7a82513b610a1c3618315eeaa056b07fc52efcdd78614550030f80c31f2", func := "example.com/breakset/breakset/zzlaws_root_b1.FnOpTableConflictMatchesCommuteLines", spec := "fnOpTableConflictMatchesCommuteLines", unfollowed := true, recurses := true, plainKeys := false, apart := false }
def FnOpTableConflictMatchesCommuteLinesSaid : Prop := fnOpTableConflictMatchesCommuteLinesRow.holds Try.pinned (OpenSpec.ofChange fnOpTableConflictMatchesCommuteLinesSpec)

/-- ITS FALSE NEIGHBOUR: 'it returns false'. Refute it at one input. -/
def fnOpTableConflictMatchesCommuteLinesWrong : ChangeSpec := { name := "fnOpTableConflictMatchesCommuteLines", fn := fun _ => fun
  | [d1, d2, d3, d4, d5] => { results := [.lit (.bool false)], args := [d1, d2, d3, d4, d5] }
  | _ => none }
def FnOpTableConflictMatchesCommuteLinesWrongFalsely : Prop := fnOpTableConflictMatchesCommuteLinesRow.holds Try.pinned (OpenSpec.ofChange fnOpTableConflictMatchesCommuteLinesWrong)

/-- 'zzlaws_root_b1.FnOpTableTurnedIsTransposed': WHATEVER THE INPUT: true; the input reads as it did. -/
def fnOpTableTurnedIsTransposedSpec : ChangeSpec := { name := "fnOpTableTurnedIsTransposed", fn := fun _ => fun
  | [d1, d2] => { results := [.lit (.bool true)], args := [d1, d2] }
  | _ => none }
def fnOpTableTurnedIsTransposedRow : OpenClaim := { program := "qxb6602514a", sum := "7cf5a7a82513b610a1c3618315eeaa056b07fc52efcdd78614550030f80c31f2", func := "example.com/breakset/breakset/zzlaws_root_b1.FnOpTableTurnedIsTransposed", spec := "fnOpTableTurnedIsTransposed", unfollowed := true, recurses := true, plainKeys := false, apart := false }
def FnOpTableTurnedIsTransposedSaid : Prop := fnOpTableTurnedIsTransposedRow.holds Try.pinned (OpenSpec.ofChange fnOpTableTurnedIsTransposedSpec)

/-- ITS FALSE NEIGHBOUR: 'it returns false'. Refute it at one input. -/
def fnOpTableTurnedIsTransposedWrong : ChangeSpec := { name := "fnOpTableTurnedIsTransposed", fn := fun _ => fun
  | [d1, d2] => { results := [.lit (.bool false)], args := [d1, d2] }
  | _ => none }
def FnOpTableTurnedIsTransposedWrongFalsely : Prop := fnOpTableTurnedIsTransposedRow.holds Try.pinned (OpenSpec.ofChange fnOpTableTurnedIsTransposedWrong)

/-- 'zzlaws_root_b1.FnOpTableKindsNumberNamedOpsInOrder': WHATEVER THE INPUT: true; the input reads as it did. -/
def fnOpTableKindsNumberNamedOpsInOrderSpec : ChangeSpec := { name := "fnOpTableKindsNumberNamedOpsInOrder", fn := fun _ => fun
  | [d1, d2, d3, d4] => { results := [.lit (.bool true)], args := [d1, d2, d3, d4] }
  | _ => none }
def fnOpTableKindsNumberNamedOpsInOrderRow : OpenClaim := { program := "qxb6602514a", sum := "7cf5a7a82513b610a1c3618315eeaa056b07fc52efcdd78614550030f80c31f2", func := "example.com/breakset/breakset/zzlaws_root_b1.FnOpTableKindsNumberNamedOpsInOrder", spec := "fnOpTableKindsNumberNamedOpsInOrder", unfollowed := true, recurses := true, plainKeys := false, apart := false }
def FnOpTableKindsNumberNamedOpsInOrderSaid : Prop := fnOpTableKindsNumberNamedOpsInOrderRow.holds Try.pinned (OpenSpec.ofChange fnOpTableKindsNumberNamedOpsInOrderSpec)

/-- ITS FALSE NEIGHBOUR: 'it returns false'. Refute it at one input. -/
def fnOpTableKindsNumberNamedOpsInOrderWrong : ChangeSpec := { name := "fnOpTableKindsNumberNamedOpsInOrder", fn := fun _ => fun
  | [d1, d2, d3, d4] => { results := [.lit (.bool false)], args := [d1, d2, d3, d4] }
  | _ => none }
def FnOpTableKindsNumberNamedOpsInOrderWrongFalsely : Prop := fnOpTableKindsNumberNamedOpsInOrderRow.holds Try.pinned (OpenSpec.ofChange fnOpTableKindsNumberNamedOpsInOrderWrong)

/-- 'zzlaws_root_b1.FnChainsMatchesBackwardWalk': WHATEVER THE INPUT: true; the input reads as it did. -/
def fnChainsMatchesBackwardWalkSpec : ChangeSpec := { name := "fnChainsMatchesBackwardWalk", fn := fun _ => fun
  | [d1, d2, d3] => { results := [.lit (.bool true)], args := [d1, d2, d3] }
  | _ => none }
def fnChainsMatchesBackwardWalkRow : OpenClaim := { program := "qxb6602514a", sum := "7cf5a7a82513b610a1c3618315eeaa056b07fc52efcdd78614550030f80c31f2", func := "example.com/breakset/breakset/zzlaws_root_b1.FnChainsMatchesBackwardWalk", spec := "fnChainsMatchesBackwardWalk", unfollowed := true, recurses := true, plainKeys := false, apart := false }
def FnChainsMatchesBackwardWalkSaid : Prop := fnChainsMatchesBackwardWalkRow.holds Try.pinned (OpenSpec.ofChange fnChainsMatchesBackwardWalkSpec)

/-- ITS FALSE NEIGHBOUR: 'it returns false'. Refute it at one input. -/
def fnChainsMatchesBackwardWalkWrong : ChangeSpec := { name := "fnChainsMatchesBackwardWalk", fn := fun _ => fun
  | [d1, d2, d3] => { results := [.lit (.bool false)], args := [d1, d2, d3] }
  | _ => none }
def FnChainsMatchesBackwardWalkWrongFalsely : Prop := fnChainsMatchesBackwardWalkRow.holds Try.pinned (OpenSpec.ofChange fnChainsMatchesBackwardWalkWrong)

/-- 'zzlaws_root_b1.FnChainsLinksMatchModel': WHATEVER THE INPUT: true; the input reads as it did. -/
def fnChainsLinksMatchModelSpec : ChangeSpec := { name := "fnChainsLinksMatchModel", fn := fun _ => fun
  | [d1, d2, d3] => { results := [.lit (.bool true)], args := [d1, d2, d3] }
  | _ => none }
def fnChainsLinksMatchModelRow : OpenClaim := { program := "qxb6602514a", sum := "7cf5a7a82513b610a1c3618315eeaa056b07fc52efcdd78614550030f80c31f2", func := "example.com/breakset/breakset/zzlaws_root_b1.FnChainsLinksMatchModel", spec := "fnChainsLinksMatchModel", unfollowed := true, recurses := true, plainKeys := false, apart := false }
def FnChainsLinksMatchModelSaid : Prop := fnChainsLinksMatchModelRow.holds Try.pinned (OpenSpec.ofChange fnChainsLinksMatchModelSpec)

/-- ITS FALSE NEIGHBOUR: 'it returns false'. Refute it at one input. -/
def fnChainsLinksMatchModelWrong : ChangeSpec := { name := "fnChainsLinksMatchModel", fn := fun _ => fun
  | [d1, d2, d3] => { results := [.lit (.bool false)], args := [d1, d2, d3] }
  | _ => none }
def FnChainsLinksMatchModelWrongFalsely : Prop := fnChainsLinksMatchModelRow.holds Try.pinned (OpenSpec.ofChange fnChainsLinksMatchModelWrong)

end Rows
end Go.Proofs.Qxb6602514a
