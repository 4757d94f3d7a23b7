/-
  No cell of these rows narrows 'for every input' (looked for: loops, veiled, ifaces, maps, wideKeys, modest, calm, conditions, laid).
  DERIVED. THE GIVEN ROWS OF THIS SEAT. 6 by the template 'for every input the law returns true; each argument reads behind the call as it read before'; 0 by the template 'total and deterministic' (their statements: Qxb6000880aTotals.lean).
  GIVEN WITH THE SEED: the statements are not yours to turn. If you find one false, say at which input.
  Laid BY PROGRAM, IN A SANDBOX (cutbox-rows.mjs): the forced cells as the released guide's own fill.sh prints them over the translation 6c5a3a46d0f00412… (all of the seat's roots in one cut). By AI agents, Wed Nov 11 2026. No macro, syntax, notation, axiom, sorry.
-/
import Derived.Test.Qxb6000880aChecked
import GoSem.Claim
import GoSem.ClaimJoined
import GoSem.ClaimMapViews
import Derived.JoinedTies
import Derived.KernelRfl
namespace Go.Proofs.Qxb6000880a
/- THE CELL 'sum', in the pinned program and in every row, IS THE sha256 OF THE DUMP (.gsa) THAT Qxb6000880aProg.lean LOADS. Nothing in Lean hashes anything: it is a label: what it is worth is what the hold of that sum in a sandbox is worth. -/
noncomputable def Try.pinned : Pinned := { name := "qxb6000880a", sum := "6c5a3a46d0f0041266a2ad430ffd3fa00863b53261c5efe86624d9ac1c55ffff", checked := Try.checked }
namespace Rows
def none {H : Type} : Left H := { results := [], args := [] }

/-- 'zzlaws_internal_htmlrewrite_b1.FnScanCommentMatchesTerminatorSearch': WHATEVER THE INPUT: true; the input reads as it did. -/
def fnScanCommentMatchesTerminatorSearchSpec : ChangeSpec := { name := "fnScanCommentMatchesTerminatorSearch", fn := fun _ => fun
  | [d1, d2] => { results := [.lit (.bool true)], args := [d1, d2] }
  | _ => none }
def fnScanCommentMatchesTerminatorSearchRow : OpenClaim := { program := "qxb6000880a", sum := "6c5a3a46d0f0041266a2ad430ffd3fa00863b53261c5efe86624d9ac1c55ffff", func := "example.com/gatewright/gatewright/zzlaws_internal_htmlrewrite_b1.FnScanCommentMatchesTerminatorSearch", spec := "fnScanCommentMatchesTerminatorSearch", apart := false }
def FnScanCommentMatchesTerminatorSearchSaid : Prop := fnScanCommentMatchesTerminatorSearchRow.holds Try.pinned (OpenSpec.ofChange fnScanCommentMatchesTerminatorSearchSpec)

/-- ITS FALSE NEIGHBOUR: 'it returns false'. Refute it at one input. -/
def fnScanCommentMatchesTerminatorSearchWrong : ChangeSpec := { name := "fnScanCommentMatchesTerminatorSearch", fn := fun _ => fun
  | [d1, d2] => { results := [.lit (.bool false)], args := [d1, d2] }
  | _ => none }
def FnScanCommentMatchesTerminatorSearchWrongFalsely : Prop := fnScanCommentMatchesTerminatorSearchRow.holds Try.pinned (OpenSpec.ofChange fnScanCommentMatchesTerminatorSearchWrong)

/-- 'zzlaws_internal_htmlrewrite_b1.FnScanCommentResumesAcrossAnySplit': WHATEVER THE INPUT: true; the input reads as it did. -/
def fnScanCommentResumesAcrossAnySplitSpec : ChangeSpec := { name := "fnScanCommentResumesAcrossAnySplit", fn := fun _ => fun
  | [d1, d2, d3] => { results := [.lit (.bool true)], args := [d1, d2, d3] }
  | _ => none }
def fnScanCommentResumesAcrossAnySplitRow : OpenClaim := { program := "qxb6000880a", sum := "6c5a3a46d0f0041266a2ad430ffd3fa00863b53261c5efe86624d9ac1c55ffff", func := "example.com/gatewright/gatewright/zzlaws_internal_htmlrewrite_b1.FnScanCommentResumesAcrossAnySplit", spec := "fnScanCommentResumesAcrossAnySplit", apart := false }
def FnScanCommentResumesAcrossAnySplitSaid : Prop := fnScanCommentResumesAcrossAnySplitRow.holds Try.pinned (OpenSpec.ofChange fnScanCommentResumesAcrossAnySplitSpec)

/-- ITS FALSE NEIGHBOUR: 'it returns false'. Refute it at one input. -/
def fnScanCommentResumesAcrossAnySplitWrong : ChangeSpec := { name := "fnScanCommentResumesAcrossAnySplit", fn := fun _ => fun
  | [d1, d2, d3] => { results := [.lit (.bool false)], args := [d1, d2, d3] }
  | _ => none }
def FnScanCommentResumesAcrossAnySplitWrongFalsely : Prop := fnScanCommentResumesAcrossAnySplitRow.holds Try.pinned (OpenSpec.ofChange fnScanCommentResumesAcrossAnySplitWrong)

/-- 'zzlaws_internal_htmlrewrite_b1.FnLessThanAnswerStableUnderMoreBytes': WHATEVER THE INPUT: true; the input reads as it did. -/
def fnLessThanAnswerStableUnderMoreBytesSpec : ChangeSpec := { name := "fnLessThanAnswerStableUnderMoreBytes", fn := fun _ => fun
  | [d1, d2, d3] => { results := [.lit (.bool true)], args := [d1, d2, d3] }
  | _ => none }
def fnLessThanAnswerStableUnderMoreBytesRow : OpenClaim := { program := "qxb6000880a", sum := "6c5a3a46d0f0041266a2ad430ffd3fa00863b53261c5efe86624d9ac1c55ffff", func := "example.com/gatewright/gatewright/zzlaws_internal_htmlrewrite_b1.FnLessThanAnswerStableUnderMoreBytes", spec := "fnLessThanAnswerStableUnderMoreBytes", apart := false }
def FnLessThanAnswerStableUnderMoreBytesSaid : Prop := fnLessThanAnswerStableUnderMoreBytesRow.holds Try.pinned (OpenSpec.ofChange fnLessThanAnswerStableUnderMoreBytesSpec)

/-- ITS FALSE NEIGHBOUR: 'it returns false'. Refute it at one input. -/
def fnLessThanAnswerStableUnderMoreBytesWrong : ChangeSpec := { name := "fnLessThanAnswerStableUnderMoreBytes", fn := fun _ => fun
  | [d1, d2, d3] => { results := [.lit (.bool false)], args := [d1, d2, d3] }
  | _ => none }
def FnLessThanAnswerStableUnderMoreBytesWrongFalsely : Prop := fnLessThanAnswerStableUnderMoreBytesRow.holds Try.pinned (OpenSpec.ofChange fnLessThanAnswerStableUnderMoreBytesWrong)

/-- 'zzlaws_internal_htmlrewrite_b1.FnLessThanEndsExactlyAtScriptEndTag': WHATEVER THE INPUT: true; the input reads as it did. -/
def fnLessThanEndsExactlyAtScriptEndTagSpec : ChangeSpec := { name := "fnLessThanEndsExactlyAtScriptEndTag", fn := fun _ => fun
  | [d1, d2] => { results := [.lit (.bool true)], args := [d1, d2] }
  | _ => none }
def fnLessThanEndsExactlyAtScriptEndTagRow : OpenClaim := { program := "qxb6000880a", sum := "6c5a3a46d0f0041266a2ad430ffd3fa00863b53261c5efe86624d9ac1c55ffff", func := "example.com/gatewright/gatewright/zzlaws_internal_htmlrewrite_b1.FnLessThanEndsExactlyAtScriptEndTag", spec := "fnLessThanEndsExactlyAtScriptEndTag", apart := false }
def FnLessThanEndsExactlyAtScriptEndTagSaid : Prop := fnLessThanEndsExactlyAtScriptEndTagRow.holds Try.pinned (OpenSpec.ofChange fnLessThanEndsExactlyAtScriptEndTagSpec)

/-- ITS FALSE NEIGHBOUR: 'it returns false'. Refute it at one input. -/
def fnLessThanEndsExactlyAtScriptEndTagWrong : ChangeSpec := { name := "fnLessThanEndsExactlyAtScriptEndTag", fn := fun _ => fun
  | [d1, d2] => { results := [.lit (.bool false)], args := [d1, d2] }
  | _ => none }
def FnLessThanEndsExactlyAtScriptEndTagWrongFalsely : Prop := fnLessThanEndsExactlyAtScriptEndTagRow.holds Try.pinned (OpenSpec.ofChange fnLessThanEndsExactlyAtScriptEndTagWrong)

/-- 'zzlaws_internal_htmlrewrite_b1.FnScanAttrsRecoversRenderedAttributes': WHATEVER THE INPUT: true; the input reads as it did. -/
def fnScanAttrsRecoversRenderedAttributesSpec : ChangeSpec := { name := "fnScanAttrsRecoversRenderedAttributes", fn := fun _ => fun
  | [d1, d2, d3, d4] => { results := [.lit (.bool true)], args := [d1, d2, d3, d4] }
  | _ => none }
def fnScanAttrsRecoversRenderedAttributesRow : OpenClaim := { program := "qxb6000880a", sum := "6c5a3a46d0f0041266a2ad430ffd3fa00863b53261c5efe86624d9ac1c55ffff", func := "example.com/gatewright/gatewright/zzlaws_internal_htmlrewrite_b1.FnScanAttrsRecoversRenderedAttributes", spec := "fnScanAttrsRecoversRenderedAttributes", inPlace := ["internal/bytealg.IndexByte"], apart := false }
def FnScanAttrsRecoversRenderedAttributesSaid : Prop := fnScanAttrsRecoversRenderedAttributesRow.holds Try.pinned (OpenSpec.ofChange fnScanAttrsRecoversRenderedAttributesSpec)

/-- ITS FALSE NEIGHBOUR: 'it returns false'. Refute it at one input. -/
def fnScanAttrsRecoversRenderedAttributesWrong : ChangeSpec := { name := "fnScanAttrsRecoversRenderedAttributes", fn := fun _ => fun
  | [d1, d2, d3, d4] => { results := [.lit (.bool false)], args := [d1, d2, d3, d4] }
  | _ => none }
def FnScanAttrsRecoversRenderedAttributesWrongFalsely : Prop := fnScanAttrsRecoversRenderedAttributesRow.holds Try.pinned (OpenSpec.ofChange fnScanAttrsRecoversRenderedAttributesWrong)

/-- 'zzlaws_internal_htmlrewrite_b1.FnScanAttrsSpansOrderedAndDelimited': WHATEVER THE INPUT: true; the input reads as it did. -/
def fnScanAttrsSpansOrderedAndDelimitedSpec : ChangeSpec := { name := "fnScanAttrsSpansOrderedAndDelimited", fn := fun _ => fun
  | [d1, d2] => { results := [.lit (.bool true)], args := [d1, d2] }
  | _ => none }
def fnScanAttrsSpansOrderedAndDelimitedRow : OpenClaim := { program := "qxb6000880a", sum := "6c5a3a46d0f0041266a2ad430ffd3fa00863b53261c5efe86624d9ac1c55ffff", func := "example.com/gatewright/gatewright/zzlaws_internal_htmlrewrite_b1.FnScanAttrsSpansOrderedAndDelimited", spec := "fnScanAttrsSpansOrderedAndDelimited", inPlace := ["internal/bytealg.IndexByte"], apart := false }
def FnScanAttrsSpansOrderedAndDelimitedSaid : Prop := fnScanAttrsSpansOrderedAndDelimitedRow.holds Try.pinned (OpenSpec.ofChange fnScanAttrsSpansOrderedAndDelimitedSpec)

/-- ITS FALSE NEIGHBOUR: 'it returns false'. Refute it at one input. -/
def fnScanAttrsSpansOrderedAndDelimitedWrong : ChangeSpec := { name := "fnScanAttrsSpansOrderedAndDelimited", fn := fun _ => fun
  | [d1, d2] => { results := [.lit (.bool false)], args := [d1, d2] }
  | _ => none }
def FnScanAttrsSpansOrderedAndDelimitedWrongFalsely : Prop := fnScanAttrsSpansOrderedAndDelimitedRow.holds Try.pinned (OpenSpec.ofChange fnScanAttrsSpansOrderedAndDelimitedWrong)

end Rows
end Go.Proofs.Qxb6000880a
