/-
  No cell of these rows narrows 'for every input' (looked for: loops, veiled, ifaces, maps, wideKeys, modest, calm, conditions, laid).
  DERIVED. THE GIVEN ROWS OF THIS SEAT. 4 by the template 'for every input the law returns true; each argument reads behind the call as it read before'; 0 by the template 'total and deterministic' (their statements: Qxb6604003aTotals.lean).
  GIVEN WITH THE SEED: the statements are not yours to turn. If you find one false, say at which input.
  Laid BY PROGRAM, IN A SANDBOX (cutbox-rows.mjs): the forced cells as the released guide's own fill.sh prints them over the translation 57d41f85e906bba3… (all of the seat's roots in one cut). By AI agents, Wed Nov 11 2026. No macro, syntax, notation, axiom, sorry.
-/
import Derived.Test.Qxb6604003aChecked
import GoSem.Claim
import GoSem.ClaimJoined
import GoSem.ClaimMapViews
import Derived.JoinedTies
import Derived.KernelRfl
namespace Go.Proofs.Qxb6604003a
/- THE CELL 'sum', in the pinned program and in every row, IS THE sha256 OF THE DUMP (.gsa) THAT Qxb6604003aProg.lean LOADS. Nothing in Lean hashes anything: it is a label: what it is worth is what the hold of that sum in a sandbox is worth. -/
noncomputable def Try.pinned : Pinned := { name := "qxb6604003a", sum := "57d41f85e906bba30bfdd979e13ba33ba8dafd490b3483be4fc44ccc353d4d86", checked := Try.checked }
namespace Rows
def none {H : Type} : Left H := { results := [], args := [] }

/-- 'zzlaws_internal_ordmap_b1.FnAppendScriptHoldsExactlyTheKeys': WHATEVER THE INPUT: true; the input reads as it did. -/
def fnAppendScriptHoldsExactlyTheKeysSpec : ChangeSpec := { name := "fnAppendScriptHoldsExactlyTheKeys", fn := fun _ => fun
  | [d1, d2] => { results := [.lit (.bool true)], args := [d1, d2] }
  | _ => none }
def fnAppendScriptHoldsExactlyTheKeysRow : OpenClaim := { program := "qxb6604003a", sum := "57d41f85e906bba30bfdd979e13ba33ba8dafd490b3483be4fc44ccc353d4d86", func := "example.com/serialis/serialis/zzlaws_internal_ordmap_b1.FnAppendScriptHoldsExactlyTheKeys", spec := "fnAppendScriptHoldsExactlyTheKeys", recurses := true, apart := false }
def FnAppendScriptHoldsExactlyTheKeysSaid : Prop := fnAppendScriptHoldsExactlyTheKeysRow.holds Try.pinned (OpenSpec.ofChange fnAppendScriptHoldsExactlyTheKeysSpec)

/-- ITS FALSE NEIGHBOUR: 'it returns false'. Refute it at one input. -/
def fnAppendScriptHoldsExactlyTheKeysWrong : ChangeSpec := { name := "fnAppendScriptHoldsExactlyTheKeys", fn := fun _ => fun
  | [d1, d2] => { results := [.lit (.bool false)], args := [d1, d2] }
  | _ => none }
def FnAppendScriptHoldsExactlyTheKeysWrongFalsely : Prop := fnAppendScriptHoldsExactlyTheKeysRow.holds Try.pinned (OpenSpec.ofChange fnAppendScriptHoldsExactlyTheKeysWrong)

/-- 'zzlaws_internal_ordmap_b1.FnAppendScriptPacksTheTree': WHATEVER THE INPUT: true; the input reads as it did. -/
def fnAppendScriptPacksTheTreeSpec : ChangeSpec := { name := "fnAppendScriptPacksTheTree", fn := fun _ => fun
  | [d1, d2] => { results := [.lit (.bool true)], args := [d1, d2] }
  | _ => none }
def fnAppendScriptPacksTheTreeRow : OpenClaim := { program := "qxb6604003a", sum := "57d41f85e906bba30bfdd979e13ba33ba8dafd490b3483be4fc44ccc353d4d86", func := "example.com/serialis/serialis/zzlaws_internal_ordmap_b1.FnAppendScriptPacksTheTree", spec := "fnAppendScriptPacksTheTree", recurses := true, apart := false }
def FnAppendScriptPacksTheTreeSaid : Prop := fnAppendScriptPacksTheTreeRow.holds Try.pinned (OpenSpec.ofChange fnAppendScriptPacksTheTreeSpec)

/-- ITS FALSE NEIGHBOUR: 'it returns false'. Refute it at one input. -/
def fnAppendScriptPacksTheTreeWrong : ChangeSpec := { name := "fnAppendScriptPacksTheTree", fn := fun _ => fun
  | [d1, d2] => { results := [.lit (.bool false)], args := [d1, d2] }
  | _ => none }
def FnAppendScriptPacksTheTreeWrongFalsely : Prop := fnAppendScriptPacksTheTreeRow.holds Try.pinned (OpenSpec.ofChange fnAppendScriptPacksTheTreeWrong)

/-- 'zzlaws_internal_ordmap_b1.FnIteratorNextWalksExactlyTheRange': WHATEVER THE INPUT: true; the input reads as it did. -/
def fnIteratorNextWalksExactlyTheRangeSpec : ChangeSpec := { name := "fnIteratorNextWalksExactlyTheRange", fn := fun _ => fun
  | [d1, d2, d3, d4] => { results := [.lit (.bool true)], args := [d1, d2, d3, d4] }
  | _ => none }
def fnIteratorNextWalksExactlyTheRangeRow : OpenClaim := { program := "qxb6604003a", sum := "57d41f85e906bba30bfdd979e13ba33ba8dafd490b3483be4fc44ccc353d4d86", func := "example.com/serialis/serialis/zzlaws_internal_ordmap_b1.FnIteratorNextWalksExactlyTheRange", spec := "fnIteratorNextWalksExactlyTheRange", inPlace := ["internal/bytealg.Compare"], apart := false }
def FnIteratorNextWalksExactlyTheRangeSaid : Prop := fnIteratorNextWalksExactlyTheRangeRow.holds Try.pinned (OpenSpec.ofChange fnIteratorNextWalksExactlyTheRangeSpec)

/-- ITS FALSE NEIGHBOUR: 'it returns false'. Refute it at one input. -/
def fnIteratorNextWalksExactlyTheRangeWrong : ChangeSpec := { name := "fnIteratorNextWalksExactlyTheRange", fn := fun _ => fun
  | [d1, d2, d3, d4] => { results := [.lit (.bool false)], args := [d1, d2, d3, d4] }
  | _ => none }
def FnIteratorNextWalksExactlyTheRangeWrongFalsely : Prop := fnIteratorNextWalksExactlyTheRangeRow.holds Try.pinned (OpenSpec.ofChange fnIteratorNextWalksExactlyTheRangeWrong)

/-- 'zzlaws_internal_ordmap_b1.FnIteratorNextRangesConcatenate': WHATEVER THE INPUT: true; the input reads as it did. -/
def fnIteratorNextRangesConcatenateSpec : ChangeSpec := { name := "fnIteratorNextRangesConcatenate", fn := fun _ => fun
  | [d1, d2, d3, d4, d5] => { results := [.lit (.bool true)], args := [d1, d2, d3, d4, d5] }
  | _ => none }
def fnIteratorNextRangesConcatenateRow : OpenClaim := { program := "qxb6604003a", sum := "57d41f85e906bba30bfdd979e13ba33ba8dafd490b3483be4fc44ccc353d4d86", func := "example.com/serialis/serialis/zzlaws_internal_ordmap_b1.FnIteratorNextRangesConcatenate", spec := "fnIteratorNextRangesConcatenate", inPlace := ["internal/bytealg.Compare"], apart := false }
def FnIteratorNextRangesConcatenateSaid : Prop := fnIteratorNextRangesConcatenateRow.holds Try.pinned (OpenSpec.ofChange fnIteratorNextRangesConcatenateSpec)

/-- ITS FALSE NEIGHBOUR: 'it returns false'. Refute it at one input. -/
def fnIteratorNextRangesConcatenateWrong : ChangeSpec := { name := "fnIteratorNextRangesConcatenate", fn := fun _ => fun
  | [d1, d2, d3, d4, d5] => { results := [.lit (.bool false)], args := [d1, d2, d3, d4, d5] }
  | _ => none }
def FnIteratorNextRangesConcatenateWrongFalsely : Prop := fnIteratorNextRangesConcatenateRow.holds Try.pinned (OpenSpec.ofChange fnIteratorNextRangesConcatenateWrong)

end Rows
end Go.Proofs.Qxb6604003a
