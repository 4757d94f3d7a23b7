/-
  No cell of these rows narrows 'for every input' (looked for: loops, veiled, ifaces, maps, wideKeys, modest, calm, conditions, laid).
  DERIVED. THE GIVEN ROWS OF THIS SEAT. 7 by the template 'for every input the law returns true; each argument reads behind the call as it read before'; 0 by the template 'total and deterministic' (their statements: Qxb6000768aTotals.lean).
  GIVEN WITH THE SEED: the statements are not yours to turn. If you find one false, say at which input.
  Laid BY PROGRAM, IN A SANDBOX (cutbox-rows.mjs): the forced cells as the released guide's own fill.sh prints them over the translation 56633b541a7e0f91… (all of the seat's roots in one cut). By AI agents, Wed Nov 11 2026. No macro, syntax, notation, axiom, sorry.
-/
import Derived.Test.Qxb6000768aChecked
import GoSem.Claim
import GoSem.ClaimJoined
import GoSem.ClaimMapViews
import Derived.JoinedTies
import Derived.KernelRfl
namespace Go.Proofs.Qxb6000768a
/- THE CELL 'sum', in the pinned program and in every row, IS THE sha256 OF THE DUMP (.gsa) THAT Qxb6000768aProg.lean LOADS. Nothing in Lean hashes anything: it is a label: what it is worth is what the hold of that sum in a sandbox is worth. -/
noncomputable def Try.pinned : Pinned := { name := "qxb6000768a", sum := "56633b541a7e0f9105f9624b7ff064271b491311f77228d662d7610926883ff6", checked := Try.checked }
namespace Rows
def none {H : Type} : Left H := { results := [], args := [] }

/-- 'zzlaws_internal_iri_b1.FnReadIsRFCRemoveDotSegments': WHATEVER THE INPUT: true; the input reads as it did. -/
def fnReadIsRFCRemoveDotSegmentsSpec : ChangeSpec := { name := "fnReadIsRFCRemoveDotSegments", fn := fun _ => fun
  | [d1, d2] => { results := [.lit (.bool true)], args := [d1, d2] }
  | _ => none }
def fnReadIsRFCRemoveDotSegmentsRow : OpenClaim := { program := "qxb6000768a", sum := "56633b541a7e0f9105f9624b7ff064271b491311f77228d662d7610926883ff6", func := "example.com/grant-check/grant-check/zzlaws_internal_iri_b1.FnReadIsRFCRemoveDotSegments", spec := "fnReadIsRFCRemoveDotSegments", inPlace := ["internal/bytealg.IndexByteString"], apart := false }
def FnReadIsRFCRemoveDotSegmentsSaid : Prop := fnReadIsRFCRemoveDotSegmentsRow.holds Try.pinned (OpenSpec.ofChange fnReadIsRFCRemoveDotSegmentsSpec)

/-- ITS FALSE NEIGHBOUR: 'it returns false'. Refute it at one input. -/
def fnReadIsRFCRemoveDotSegmentsWrong : ChangeSpec := { name := "fnReadIsRFCRemoveDotSegments", fn := fun _ => fun
  | [d1, d2] => { results := [.lit (.bool false)], args := [d1, d2] }
  | _ => none }
def FnReadIsRFCRemoveDotSegmentsWrongFalsely : Prop := fnReadIsRFCRemoveDotSegmentsRow.holds Try.pinned (OpenSpec.ofChange fnReadIsRFCRemoveDotSegmentsWrong)

/-- 'zzlaws_internal_iri_b1.FnReadIsIdempotent': WHATEVER THE INPUT: true; the input reads as it did. -/
def fnReadIsIdempotentSpec : ChangeSpec := { name := "fnReadIsIdempotent", fn := fun _ => fun
  | [d] => { results := [.lit (.bool true)], args := [d] }
  | _ => none }
def fnReadIsIdempotentRow : OpenClaim := { program := "qxb6000768a", sum := "56633b541a7e0f9105f9624b7ff064271b491311f77228d662d7610926883ff6", func := "example.com/grant-check/grant-check/zzlaws_internal_iri_b1.FnReadIsIdempotent", spec := "fnReadIsIdempotent", inPlace := ["internal/bytealg.IndexByteString"], apart := false }
def FnReadIsIdempotentSaid : Prop := fnReadIsIdempotentRow.holds Try.pinned (OpenSpec.ofChange fnReadIsIdempotentSpec)

/-- ITS FALSE NEIGHBOUR: 'it returns false'. Refute it at one input. -/
def fnReadIsIdempotentWrong : ChangeSpec := { name := "fnReadIsIdempotent", fn := fun _ => fun
  | [d] => { results := [.lit (.bool false)], args := [d] }
  | _ => none }
def FnReadIsIdempotentWrongFalsely : Prop := fnReadIsIdempotentRow.holds Try.pinned (OpenSpec.ofChange fnReadIsIdempotentWrong)

/-- 'zzlaws_internal_iri_b1.FnReadShortensAndLeavesNoDotSegment': WHATEVER THE INPUT: true; the input reads as it did. -/
def fnReadShortensAndLeavesNoDotSegmentSpec : ChangeSpec := { name := "fnReadShortensAndLeavesNoDotSegment", fn := fun _ => fun
  | [d1, d2] => { results := [.lit (.bool true)], args := [d1, d2] }
  | _ => none }
def fnReadShortensAndLeavesNoDotSegmentRow : OpenClaim := { program := "qxb6000768a", sum := "56633b541a7e0f9105f9624b7ff064271b491311f77228d662d7610926883ff6", func := "example.com/grant-check/grant-check/zzlaws_internal_iri_b1.FnReadShortensAndLeavesNoDotSegment", spec := "fnReadShortensAndLeavesNoDotSegment", inPlace := ["internal/bytealg.IndexByteString"], apart := false }
def FnReadShortensAndLeavesNoDotSegmentSaid : Prop := fnReadShortensAndLeavesNoDotSegmentRow.holds Try.pinned (OpenSpec.ofChange fnReadShortensAndLeavesNoDotSegmentSpec)

/-- ITS FALSE NEIGHBOUR: 'it returns false'. Refute it at one input. -/
def fnReadShortensAndLeavesNoDotSegmentWrong : ChangeSpec := { name := "fnReadShortensAndLeavesNoDotSegment", fn := fun _ => fun
  | [d1, d2] => { results := [.lit (.bool false)], args := [d1, d2] }
  | _ => none }
def FnReadShortensAndLeavesNoDotSegmentWrongFalsely : Prop := fnReadShortensAndLeavesNoDotSegmentRow.holds Try.pinned (OpenSpec.ofChange fnReadShortensAndLeavesNoDotSegmentWrong)

/-- 'zzlaws_internal_iri_b1.FnNewBaseSpellsInputWithoutFragment': WHATEVER THE INPUT: true; the input reads as it did. -/
def fnNewBaseSpellsInputWithoutFragmentSpec : ChangeSpec := { name := "fnNewBaseSpellsInputWithoutFragment", fn := fun _ => fun
  | [d] => { results := [.lit (.bool true)], args := [d] }
  | _ => none }
def fnNewBaseSpellsInputWithoutFragmentRow : OpenClaim := { program := "qxb6000768a", sum := "56633b541a7e0f9105f9624b7ff064271b491311f77228d662d7610926883ff6", func := "example.com/grant-check/grant-check/zzlaws_internal_iri_b1.FnNewBaseSpellsInputWithoutFragment", spec := "fnNewBaseSpellsInputWithoutFragment", inPlace := ["internal/bytealg.IndexByteString", "internal/bytealg.IndexString"], named := ["internal/bytealg.MaxLen"], apart := false }
def FnNewBaseSpellsInputWithoutFragmentSaid : Prop := fnNewBaseSpellsInputWithoutFragmentRow.holds Try.pinned (OpenSpec.ofChange fnNewBaseSpellsInputWithoutFragmentSpec)

/-- ITS FALSE NEIGHBOUR: 'it returns false'. Refute it at one input. -/
def fnNewBaseSpellsInputWithoutFragmentWrong : ChangeSpec := { name := "fnNewBaseSpellsInputWithoutFragment", fn := fun _ => fun
  | [d] => { results := [.lit (.bool false)], args := [d] }
  | _ => none }
def FnNewBaseSpellsInputWithoutFragmentWrongFalsely : Prop := fnNewBaseSpellsInputWithoutFragmentRow.holds Try.pinned (OpenSpec.ofChange fnNewBaseSpellsInputWithoutFragmentWrong)

/-- 'zzlaws_internal_iri_b1.FnTargetResolvesAsRFC3986': WHATEVER THE INPUT: true; the input reads as it did. -/
def fnTargetResolvesAsRFC3986Spec : ChangeSpec := { name := "fnTargetResolvesAsRFC3986", fn := fun _ => fun
  | [d1, d2] => { results := [.lit (.bool true)], args := [d1, d2] }
  | _ => none }
def fnTargetResolvesAsRFC3986Row : OpenClaim := { program := "qxb6000768a", sum := "56633b541a7e0f9105f9624b7ff064271b491311f77228d662d7610926883ff6", func := "example.com/grant-check/grant-check/zzlaws_internal_iri_b1.FnTargetResolvesAsRFC3986", spec := "fnTargetResolvesAsRFC3986", inPlace := ["internal/bytealg.IndexByteString", "internal/bytealg.IndexString"], named := ["internal/bytealg.MaxLen"], apart := false }
def FnTargetResolvesAsRFC3986Said : Prop := fnTargetResolvesAsRFC3986Row.holds Try.pinned (OpenSpec.ofChange fnTargetResolvesAsRFC3986Spec)

/-- ITS FALSE NEIGHBOUR: 'it returns false'. Refute it at one input. -/
def fnTargetResolvesAsRFC3986Wrong : ChangeSpec := { name := "fnTargetResolvesAsRFC3986", fn := fun _ => fun
  | [d1, d2] => { results := [.lit (.bool false)], args := [d1, d2] }
  | _ => none }
def FnTargetResolvesAsRFC3986WrongFalsely : Prop := fnTargetResolvesAsRFC3986Row.holds Try.pinned (OpenSpec.ofChange fnTargetResolvesAsRFC3986Wrong)

/-- 'zzlaws_internal_iri_b1.FnTargetTwiceResolvesAsRFC3986': WHATEVER THE INPUT: true; the input reads as it did. -/
def fnTargetTwiceResolvesAsRFC3986Spec : ChangeSpec := { name := "fnTargetTwiceResolvesAsRFC3986", fn := fun _ => fun
  | [d1, d2, d3] => { results := [.lit (.bool true)], args := [d1, d2, d3] }
  | _ => none }
def fnTargetTwiceResolvesAsRFC3986Row : OpenClaim := { program := "qxb6000768a", sum := "56633b541a7e0f9105f9624b7ff064271b491311f77228d662d7610926883ff6", func := "example.com/grant-check/grant-check/zzlaws_internal_iri_b1.FnTargetTwiceResolvesAsRFC3986", spec := "fnTargetTwiceResolvesAsRFC3986", inPlace := ["internal/bytealg.IndexByteString", "internal/bytealg.IndexString"], named := ["internal/bytealg.MaxLen"], apart := false }
def FnTargetTwiceResolvesAsRFC3986Said : Prop := fnTargetTwiceResolvesAsRFC3986Row.holds Try.pinned (OpenSpec.ofChange fnTargetTwiceResolvesAsRFC3986Spec)

/-- ITS FALSE NEIGHBOUR: 'it returns false'. Refute it at one input. -/
def fnTargetTwiceResolvesAsRFC3986Wrong : ChangeSpec := { name := "fnTargetTwiceResolvesAsRFC3986", fn := fun _ => fun
  | [d1, d2, d3] => { results := [.lit (.bool false)], args := [d1, d2, d3] }
  | _ => none }
def FnTargetTwiceResolvesAsRFC3986WrongFalsely : Prop := fnTargetTwiceResolvesAsRFC3986Row.holds Try.pinned (OpenSpec.ofChange fnTargetTwiceResolvesAsRFC3986Wrong)

/-- 'zzlaws_internal_iri_b1.FnTargetAbsolutePathForgetsBasePath': WHATEVER THE INPUT: true; the input reads as it did. -/
def fnTargetAbsolutePathForgetsBasePathSpec : ChangeSpec := { name := "fnTargetAbsolutePathForgetsBasePath", fn := fun _ => fun
  | [d1, d2, d3] => { results := [.lit (.bool true)], args := [d1, d2, d3] }
  | _ => none }
def fnTargetAbsolutePathForgetsBasePathRow : OpenClaim := { program := "qxb6000768a", sum := "56633b541a7e0f9105f9624b7ff064271b491311f77228d662d7610926883ff6", func := "example.com/grant-check/grant-check/zzlaws_internal_iri_b1.FnTargetAbsolutePathForgetsBasePath", spec := "fnTargetAbsolutePathForgetsBasePath", inPlace := ["internal/bytealg.IndexByteString", "internal/bytealg.IndexString"], named := ["internal/bytealg.MaxLen"], apart := false }
def FnTargetAbsolutePathForgetsBasePathSaid : Prop := fnTargetAbsolutePathForgetsBasePathRow.holds Try.pinned (OpenSpec.ofChange fnTargetAbsolutePathForgetsBasePathSpec)

/-- ITS FALSE NEIGHBOUR: 'it returns false'. Refute it at one input. -/
def fnTargetAbsolutePathForgetsBasePathWrong : ChangeSpec := { name := "fnTargetAbsolutePathForgetsBasePath", fn := fun _ => fun
  | [d1, d2, d3] => { results := [.lit (.bool false)], args := [d1, d2, d3] }
  | _ => none }
def FnTargetAbsolutePathForgetsBasePathWrongFalsely : Prop := fnTargetAbsolutePathForgetsBasePathRow.holds Try.pinned (OpenSpec.ofChange fnTargetAbsolutePathForgetsBasePathWrong)

end Rows
end Go.Proofs.Qxb6000768a
