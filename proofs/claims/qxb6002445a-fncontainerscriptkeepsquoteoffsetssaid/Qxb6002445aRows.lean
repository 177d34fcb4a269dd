/-
  No cell of these rows narrows 'for every input' (looked for: loops, veiled, ifaces, maps, wideKeys, modest, calm, conditions, laid).
  DERIVED. THE GIVEN ROWS OF THIS SEAT. 5 by the template 'for every input the law returns true; each argument reads behind the call as it read before'; 0 by the template 'total and deterministic' (their statements: Qxb6002445aTotals.lean).
  GIVEN WITH THE SEED: the statements are not yours to turn. If you find one false, say at which input.
  Laid BY PROGRAM, IN A SANDBOX (cutbox-rows.mjs): the forced cells as the released guide's own fill.sh prints them over the translation 23cbde08b5e91223… (all of the seat's roots in one cut). By AI agents, Wed Nov 11 2026. No macro, syntax, notation, axiom, sorry.
-/
import Derived.Test.Qxb6002445aChecked
import GoSem.Claim
import GoSem.ClaimJoined
import GoSem.ClaimMapViews
import Derived.JoinedTies
import Derived.KernelRfl
namespace Go.Proofs.Qxb6002445a
/- THE CELL 'sum', in the pinned program and in every row, IS THE sha256 OF THE DUMP (.gsa) THAT Qxb6002445aProg.lean LOADS. Nothing in Lean hashes anything: it is a label: what it is worth is what the hold of that sum in a sandbox is worth. -/
noncomputable def Try.pinned : Pinned := { name := "qxb6002445a", sum := "23cbde08b5e91223fefd5572da89e8e2cde4b2a207cdc88dab385f01450b7158", checked := Try.checked }
namespace Rows
def none {H : Type} : Left H := { results := [], args := [] }

/-- 'zzlaws_internal_markdown_g2.FnTagNameSplitsLeadingName': WHATEVER THE INPUT: true; the input reads as it did. -/
def fnTagNameSplitsLeadingNameSpec : ChangeSpec := { name := "fnTagNameSplitsLeadingName", fn := fun _ => fun
  | [d] => { results := [.lit (.bool true)], args := [d] }
  | _ => none }
def fnTagNameSplitsLeadingNameRow : OpenClaim := { program := "qxb6002445a", sum := "23cbde08b5e91223fefd5572da89e8e2cde4b2a207cdc88dab385f01450b7158", func := "example.com/exact-tangle/exact-tangle/zzlaws_internal_markdown_g2.FnTagNameSplitsLeadingName", spec := "fnTagNameSplitsLeadingName", apart := false }
def FnTagNameSplitsLeadingNameSaid : Prop := fnTagNameSplitsLeadingNameRow.holds Try.pinned (OpenSpec.ofChange fnTagNameSplitsLeadingNameSpec)

/-- ITS FALSE NEIGHBOUR: 'it returns false'. Refute it at one input. -/
def fnTagNameSplitsLeadingNameWrong : ChangeSpec := { name := "fnTagNameSplitsLeadingName", fn := fun _ => fun
  | [d] => { results := [.lit (.bool false)], args := [d] }
  | _ => none }
def FnTagNameSplitsLeadingNameWrongFalsely : Prop := fnTagNameSplitsLeadingNameRow.holds Try.pinned (OpenSpec.ofChange fnTagNameSplitsLeadingNameWrong)

/-- 'zzlaws_internal_markdown_g2.FnContainerScriptKeepsQuoteOffsets': WHATEVER THE INPUT: true; the input reads as it did. -/
def fnContainerScriptKeepsQuoteOffsetsSpec : ChangeSpec := { name := "fnContainerScriptKeepsQuoteOffsets", fn := fun _ => fun
  | [d] => { results := [.lit (.bool true)], args := [d] }
  | _ => none }
def fnContainerScriptKeepsQuoteOffsetsRow : OpenClaim := { program := "qxb6002445a", sum := "23cbde08b5e91223fefd5572da89e8e2cde4b2a207cdc88dab385f01450b7158", func := "example.com/exact-tangle/exact-tangle/zzlaws_internal_markdown_g2.FnContainerScriptKeepsQuoteOffsets", spec := "fnContainerScriptKeepsQuoteOffsets", apart := false }
def FnContainerScriptKeepsQuoteOffsetsSaid : Prop := fnContainerScriptKeepsQuoteOffsetsRow.holds Try.pinned (OpenSpec.ofChange fnContainerScriptKeepsQuoteOffsetsSpec)

/-- ITS FALSE NEIGHBOUR: 'it returns false'. Refute it at one input. -/
def fnContainerScriptKeepsQuoteOffsetsWrong : ChangeSpec := { name := "fnContainerScriptKeepsQuoteOffsets", fn := fun _ => fun
  | [d] => { results := [.lit (.bool false)], args := [d] }
  | _ => none }
def FnContainerScriptKeepsQuoteOffsetsWrongFalsely : Prop := fnContainerScriptKeepsQuoteOffsetsRow.holds Try.pinned (OpenSpec.ofChange fnContainerScriptKeepsQuoteOffsetsWrong)

/-- 'zzlaws_internal_markdown_g2.FnFindNextIncrementalAgreesFresh': WHATEVER THE INPUT: true; the input reads as it did. -/
def fnFindNextIncrementalAgreesFreshSpec : ChangeSpec := { name := "fnFindNextIncrementalAgreesFresh", fn := fun _ => fun
  | [d1, d2, d3] => { results := [.lit (.bool true)], args := [d1, d2, d3] }
  | _ => none }
def fnFindNextIncrementalAgreesFreshRow : OpenClaim := { program := "qxb6002445a", sum := "23cbde08b5e91223fefd5572da89e8e2cde4b2a207cdc88dab385f01450b7158", func := "example.com/exact-tangle/exact-tangle/zzlaws_internal_markdown_g2.FnFindNextIncrementalAgreesFresh", spec := "fnFindNextIncrementalAgreesFresh", apart := false }
def FnFindNextIncrementalAgreesFreshSaid : Prop := fnFindNextIncrementalAgreesFreshRow.holds Try.pinned (OpenSpec.ofChange fnFindNextIncrementalAgreesFreshSpec)

/-- ITS FALSE NEIGHBOUR: 'it returns false'. Refute it at one input. -/
def fnFindNextIncrementalAgreesFreshWrong : ChangeSpec := { name := "fnFindNextIncrementalAgreesFresh", fn := fun _ => fun
  | [d1, d2, d3] => { results := [.lit (.bool false)], args := [d1, d2, d3] }
  | _ => none }
def FnFindNextIncrementalAgreesFreshWrongFalsely : Prop := fnFindNextIncrementalAgreesFreshRow.holds Try.pinned (OpenSpec.ofChange fnFindNextIncrementalAgreesFreshWrong)

/-- 'zzlaws_internal_markdown_g2.FnMarkerPaddingColumns': WHATEVER THE INPUT: true; the input reads as it did. -/
def fnMarkerPaddingColumnsSpec : ChangeSpec := { name := "fnMarkerPaddingColumns", fn := fun _ => fun
  | [d1, d2, d3] => { results := [.lit (.bool true)], args := [d1, d2, d3] }
  | _ => none }
def fnMarkerPaddingColumnsRow : OpenClaim := { program := "qxb6002445a", sum := "23cbde08b5e91223fefd5572da89e8e2cde4b2a207cdc88dab385f01450b7158", func := "example.com/exact-tangle/exact-tangle/zzlaws_internal_markdown_g2.FnMarkerPaddingColumns", spec := "fnMarkerPaddingColumns", apart := false }
def FnMarkerPaddingColumnsSaid : Prop := fnMarkerPaddingColumnsRow.holds Try.pinned (OpenSpec.ofChange fnMarkerPaddingColumnsSpec)

/-- ITS FALSE NEIGHBOUR: 'it returns false'. Refute it at one input. -/
def fnMarkerPaddingColumnsWrong : ChangeSpec := { name := "fnMarkerPaddingColumns", fn := fun _ => fun
  | [d1, d2, d3] => { results := [.lit (.bool false)], args := [d1, d2, d3] }
  | _ => none }
def FnMarkerPaddingColumnsWrongFalsely : Prop := fnMarkerPaddingColumnsRow.holds Try.pinned (OpenSpec.ofChange fnMarkerPaddingColumnsWrong)

/-- 'zzlaws_internal_markdown_g2.FnContinuesMovesPastMarker': WHATEVER THE INPUT: true; the input reads as it did. -/
def fnContinuesMovesPastMarkerSpec : ChangeSpec := { name := "fnContinuesMovesPastMarker", fn := fun _ => fun
  | [d1, d2, d3, d4] => { results := [.lit (.bool true)], args := [d1, d2, d3, d4] }
  | _ => none }
def fnContinuesMovesPastMarkerRow : OpenClaim := { program := "qxb6002445a", sum := "23cbde08b5e91223fefd5572da89e8e2cde4b2a207cdc88dab385f01450b7158", func := "example.com/exact-tangle/exact-tangle/zzlaws_internal_markdown_g2.FnContinuesMovesPastMarker", spec := "fnContinuesMovesPastMarker", apart := false }
def FnContinuesMovesPastMarkerSaid : Prop := fnContinuesMovesPastMarkerRow.holds Try.pinned (OpenSpec.ofChange fnContinuesMovesPastMarkerSpec)

/-- ITS FALSE NEIGHBOUR: 'it returns false'. Refute it at one input. -/
def fnContinuesMovesPastMarkerWrong : ChangeSpec := { name := "fnContinuesMovesPastMarker", fn := fun _ => fun
  | [d1, d2, d3, d4] => { results := [.lit (.bool false)], args := [d1, d2, d3, d4] }
  | _ => none }
def FnContinuesMovesPastMarkerWrongFalsely : Prop := fnContinuesMovesPastMarkerRow.holds Try.pinned (OpenSpec.ofChange fnContinuesMovesPastMarkerWrong)

end Rows
end Go.Proofs.Qxb6002445a
