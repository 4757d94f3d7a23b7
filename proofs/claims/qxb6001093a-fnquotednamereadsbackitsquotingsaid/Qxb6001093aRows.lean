/-
  No cell of these rows narrows 'for every input' (looked for: loops, veiled, ifaces, maps, wideKeys, modest, calm, conditions, laid).
  DERIVED. THE GIVEN ROWS OF THIS SEAT. 8 by the template 'for every input the law returns true; each argument reads behind the call as it read before'; 0 by the template 'total and deterministic' (their statements: Qxb6001093aTotals.lean).
  GIVEN WITH THE SEED: the statements are not yours to turn. If you find one false, say at which input.
  Laid BY PROGRAM, IN A SANDBOX (cutbox-rows.mjs): the forced cells as the released guide's own fill.sh prints them over the translation 164263db0ea4946d… (all of the seat's roots in one cut). By AI agents, Wed Nov 11 2026. No macro, syntax, notation, axiom, sorry.
-/
import Derived.Test.Qxb6001093aChecked
import GoSem.Claim
import GoSem.ClaimJoined
import GoSem.ClaimMapViews
import Derived.JoinedTies
import Derived.KernelRfl
namespace Go.Proofs.Qxb6001093a
/- THE CELL 'sum', in the pinned program and in every row, IS THE sha256 OF THE DUMP (.gsa) THAT Qxb6001093aProg.lean LOADS. Nothing in Lean hashes anything: it is a label: what it is worth is what the hold of that sum in a sandbox is worth. -/
noncomputable def Try.pinned : Pinned := { name := "qxb6001093a", sum := "164263db0ea4946d7ea305a223bc6b96199b1f337a1e293d288f13947e3e7712", checked := Try.checked }
namespace Rows
def none {H : Type} : Left H := { results := [], args := [] }

/-- 'zzlaws_stmt_b1.FnSkipBlanksDependsOnlyOnTheRest': WHATEVER THE INPUT: true; the input reads as it did. -/
def fnSkipBlanksDependsOnlyOnTheRestSpec : ChangeSpec := { name := "fnSkipBlanksDependsOnlyOnTheRest", fn := fun _ => fun
  | [d1, d2, d3, d4] => { results := [.lit (.bool true)], args := [d1, d2, d3, d4] }
  | _ => none }
def fnSkipBlanksDependsOnlyOnTheRestRow : OpenClaim := { program := "qxb6001093a", sum := "164263db0ea4946d7ea305a223bc6b96199b1f337a1e293d288f13947e3e7712", func := "example.com/binrelay/binrelay/zzlaws_stmt_b1.FnSkipBlanksDependsOnlyOnTheRest", spec := "fnSkipBlanksDependsOnlyOnTheRest", inPlace := ["internal/bytealg.IndexByte", "internal/bytealg.Index"], named := ["internal/bytealg.MaxLen"], apart := false }
def FnSkipBlanksDependsOnlyOnTheRestSaid : Prop := fnSkipBlanksDependsOnlyOnTheRestRow.holds Try.pinned (OpenSpec.ofChange fnSkipBlanksDependsOnlyOnTheRestSpec)

/-- ITS FALSE NEIGHBOUR: 'it returns false'. Refute it at one input. -/
def fnSkipBlanksDependsOnlyOnTheRestWrong : ChangeSpec := { name := "fnSkipBlanksDependsOnlyOnTheRest", fn := fun _ => fun
  | [d1, d2, d3, d4] => { results := [.lit (.bool false)], args := [d1, d2, d3, d4] }
  | _ => none }
def FnSkipBlanksDependsOnlyOnTheRestWrongFalsely : Prop := fnSkipBlanksDependsOnlyOnTheRestRow.holds Try.pinned (OpenSpec.ofChange fnSkipBlanksDependsOnlyOnTheRestWrong)

/-- 'zzlaws_stmt_b1.FnSkipBlanksIsIdempotent': WHATEVER THE INPUT: true; the input reads as it did. -/
def fnSkipBlanksIsIdempotentSpec : ChangeSpec := { name := "fnSkipBlanksIsIdempotent", fn := fun _ => fun
  | [d1, d2, d3, d4] => { results := [.lit (.bool true)], args := [d1, d2, d3, d4] }
  | _ => none }
def fnSkipBlanksIsIdempotentRow : OpenClaim := { program := "qxb6001093a", sum := "164263db0ea4946d7ea305a223bc6b96199b1f337a1e293d288f13947e3e7712", func := "example.com/binrelay/binrelay/zzlaws_stmt_b1.FnSkipBlanksIsIdempotent", spec := "fnSkipBlanksIsIdempotent", inPlace := ["internal/bytealg.IndexByte", "internal/bytealg.Index"], named := ["internal/bytealg.MaxLen"], apart := false }
def FnSkipBlanksIsIdempotentSaid : Prop := fnSkipBlanksIsIdempotentRow.holds Try.pinned (OpenSpec.ofChange fnSkipBlanksIsIdempotentSpec)

/-- ITS FALSE NEIGHBOUR: 'it returns false'. Refute it at one input. -/
def fnSkipBlanksIsIdempotentWrong : ChangeSpec := { name := "fnSkipBlanksIsIdempotent", fn := fun _ => fun
  | [d1, d2, d3, d4] => { results := [.lit (.bool false)], args := [d1, d2, d3, d4] }
  | _ => none }
def FnSkipBlanksIsIdempotentWrongFalsely : Prop := fnSkipBlanksIsIdempotentRow.holds Try.pinned (OpenSpec.ofChange fnSkipBlanksIsIdempotentWrong)

/-- 'zzlaws_stmt_b1.FnSkipBlanksPassesAClosedComment': WHATEVER THE INPUT: true; the input reads as it did. -/
def fnSkipBlanksPassesAClosedCommentSpec : ChangeSpec := { name := "fnSkipBlanksPassesAClosedComment", fn := fun _ => fun
  | [d1, d2, d3, d4, d5] => { results := [.lit (.bool true)], args := [d1, d2, d3, d4, d5] }
  | _ => none }
def fnSkipBlanksPassesAClosedCommentRow : OpenClaim := { program := "qxb6001093a", sum := "164263db0ea4946d7ea305a223bc6b96199b1f337a1e293d288f13947e3e7712", func := "example.com/binrelay/binrelay/zzlaws_stmt_b1.FnSkipBlanksPassesAClosedComment", spec := "fnSkipBlanksPassesAClosedComment", inPlace := ["internal/bytealg.IndexByte", "internal/bytealg.Index"], named := ["internal/bytealg.MaxLen"], apart := false }
def FnSkipBlanksPassesAClosedCommentSaid : Prop := fnSkipBlanksPassesAClosedCommentRow.holds Try.pinned (OpenSpec.ofChange fnSkipBlanksPassesAClosedCommentSpec)

/-- ITS FALSE NEIGHBOUR: 'it returns false'. Refute it at one input. -/
def fnSkipBlanksPassesAClosedCommentWrong : ChangeSpec := { name := "fnSkipBlanksPassesAClosedComment", fn := fun _ => fun
  | [d1, d2, d3, d4, d5] => { results := [.lit (.bool false)], args := [d1, d2, d3, d4, d5] }
  | _ => none }
def FnSkipBlanksPassesAClosedCommentWrongFalsely : Prop := fnSkipBlanksPassesAClosedCommentRow.holds Try.pinned (OpenSpec.ofChange fnSkipBlanksPassesAClosedCommentWrong)

/-- 'zzlaws_stmt_b1.FnQuotedNameReadsBackItsQuoting': WHATEVER THE INPUT: true; the input reads as it did. -/
def fnQuotedNameReadsBackItsQuotingSpec : ChangeSpec := { name := "fnQuotedNameReadsBackItsQuoting", fn := fun _ => fun
  | [d1, d2, d3, d4] => { results := [.lit (.bool true)], args := [d1, d2, d3, d4] }
  | _ => none }
def fnQuotedNameReadsBackItsQuotingRow : OpenClaim := { program := "qxb6001093a", sum := "164263db0ea4946d7ea305a223bc6b96199b1f337a1e293d288f13947e3e7712", func := "example.com/binrelay/binrelay/zzlaws_stmt_b1.FnQuotedNameReadsBackItsQuoting", spec := "fnQuotedNameReadsBackItsQuoting", inPlace := ["internal/bytealg.IndexByte"], apart := false }
def FnQuotedNameReadsBackItsQuotingSaid : Prop := fnQuotedNameReadsBackItsQuotingRow.holds Try.pinned (OpenSpec.ofChange fnQuotedNameReadsBackItsQuotingSpec)

/-- ITS FALSE NEIGHBOUR: 'it returns false'. Refute it at one input. -/
def fnQuotedNameReadsBackItsQuotingWrong : ChangeSpec := { name := "fnQuotedNameReadsBackItsQuoting", fn := fun _ => fun
  | [d1, d2, d3, d4] => { results := [.lit (.bool false)], args := [d1, d2, d3, d4] }
  | _ => none }
def FnQuotedNameReadsBackItsQuotingWrongFalsely : Prop := fnQuotedNameReadsBackItsQuotingRow.holds Try.pinned (OpenSpec.ofChange fnQuotedNameReadsBackItsQuotingWrong)

/-- 'zzlaws_stmt_b1.FnQuotedNameLeftOpenRunsToTheEnd': WHATEVER THE INPUT: true; the input reads as it did. -/
def fnQuotedNameLeftOpenRunsToTheEndSpec : ChangeSpec := { name := "fnQuotedNameLeftOpenRunsToTheEnd", fn := fun _ => fun
  | [d1, d2, d3] => { results := [.lit (.bool true)], args := [d1, d2, d3] }
  | _ => none }
def fnQuotedNameLeftOpenRunsToTheEndRow : OpenClaim := { program := "qxb6001093a", sum := "164263db0ea4946d7ea305a223bc6b96199b1f337a1e293d288f13947e3e7712", func := "example.com/binrelay/binrelay/zzlaws_stmt_b1.FnQuotedNameLeftOpenRunsToTheEnd", spec := "fnQuotedNameLeftOpenRunsToTheEnd", inPlace := ["internal/bytealg.IndexByte"], apart := false }
def FnQuotedNameLeftOpenRunsToTheEndSaid : Prop := fnQuotedNameLeftOpenRunsToTheEndRow.holds Try.pinned (OpenSpec.ofChange fnQuotedNameLeftOpenRunsToTheEndSpec)

/-- ITS FALSE NEIGHBOUR: 'it returns false'. Refute it at one input. -/
def fnQuotedNameLeftOpenRunsToTheEndWrong : ChangeSpec := { name := "fnQuotedNameLeftOpenRunsToTheEnd", fn := fun _ => fun
  | [d1, d2, d3] => { results := [.lit (.bool false)], args := [d1, d2, d3] }
  | _ => none }
def FnQuotedNameLeftOpenRunsToTheEndWrongFalsely : Prop := fnQuotedNameLeftOpenRunsToTheEndRow.holds Try.pinned (OpenSpec.ofChange fnQuotedNameLeftOpenRunsToTheEndWrong)

/-- 'zzlaws_stmt_b1.FnQuotedNameConsumesAQuotingOrTheRest': WHATEVER THE INPUT: true; the input reads as it did. -/
def fnQuotedNameConsumesAQuotingOrTheRestSpec : ChangeSpec := { name := "fnQuotedNameConsumesAQuotingOrTheRest", fn := fun _ => fun
  | [d1, d2, d3, d4] => { results := [.lit (.bool true)], args := [d1, d2, d3, d4] }
  | _ => none }
def fnQuotedNameConsumesAQuotingOrTheRestRow : OpenClaim := { program := "qxb6001093a", sum := "164263db0ea4946d7ea305a223bc6b96199b1f337a1e293d288f13947e3e7712", func := "example.com/binrelay/binrelay/zzlaws_stmt_b1.FnQuotedNameConsumesAQuotingOrTheRest", spec := "fnQuotedNameConsumesAQuotingOrTheRest", inPlace := ["internal/bytealg.IndexByte"], apart := false }
def FnQuotedNameConsumesAQuotingOrTheRestSaid : Prop := fnQuotedNameConsumesAQuotingOrTheRestRow.holds Try.pinned (OpenSpec.ofChange fnQuotedNameConsumesAQuotingOrTheRestSpec)

/-- ITS FALSE NEIGHBOUR: 'it returns false'. Refute it at one input. -/
def fnQuotedNameConsumesAQuotingOrTheRestWrong : ChangeSpec := { name := "fnQuotedNameConsumesAQuotingOrTheRest", fn := fun _ => fun
  | [d1, d2, d3, d4] => { results := [.lit (.bool false)], args := [d1, d2, d3, d4] }
  | _ => none }
def FnQuotedNameConsumesAQuotingOrTheRestWrongFalsely : Prop := fnQuotedNameConsumesAQuotingOrTheRestRow.holds Try.pinned (OpenSpec.ofChange fnQuotedNameConsumesAQuotingOrTheRestWrong)

/-- 'zzlaws_stmt_b1.FnScanReachesTheEndMovingForward': WHATEVER THE INPUT: true; the input reads as it did. -/
def fnScanReachesTheEndMovingForwardSpec : ChangeSpec := { name := "fnScanReachesTheEndMovingForward", fn := fun _ => fun
  | [d1, d2, d3, d4] => { results := [.lit (.bool true)], args := [d1, d2, d3, d4] }
  | _ => none }
def fnScanReachesTheEndMovingForwardRow : OpenClaim := { program := "qxb6001093a", sum := "164263db0ea4946d7ea305a223bc6b96199b1f337a1e293d288f13947e3e7712", func := "example.com/binrelay/binrelay/zzlaws_stmt_b1.FnScanReachesTheEndMovingForward", spec := "fnScanReachesTheEndMovingForward", inPlace := ["internal/bytealg.IndexByte", "internal/bytealg.Index"], named := ["internal/bytealg.MaxLen"], apart := false }
def FnScanReachesTheEndMovingForwardSaid : Prop := fnScanReachesTheEndMovingForwardRow.holds Try.pinned (OpenSpec.ofChange fnScanReachesTheEndMovingForwardSpec)

/-- ITS FALSE NEIGHBOUR: 'it returns false'. Refute it at one input. -/
def fnScanReachesTheEndMovingForwardWrong : ChangeSpec := { name := "fnScanReachesTheEndMovingForward", fn := fun _ => fun
  | [d1, d2, d3, d4] => { results := [.lit (.bool false)], args := [d1, d2, d3, d4] }
  | _ => none }
def FnScanReachesTheEndMovingForwardWrongFalsely : Prop := fnScanReachesTheEndMovingForwardRow.holds Try.pinned (OpenSpec.ofChange fnScanReachesTheEndMovingForwardWrong)

/-- 'zzlaws_stmt_b1.FnScanReadsOnlyTheTwoQuotingModes': WHATEVER THE INPUT: true; the input reads as it did. -/
def fnScanReadsOnlyTheTwoQuotingModesSpec : ChangeSpec := { name := "fnScanReadsOnlyTheTwoQuotingModes", fn := fun _ => fun
  | [d1, d2, d3, d4, d5] => { results := [.lit (.bool true)], args := [d1, d2, d3, d4, d5] }
  | _ => none }
def fnScanReadsOnlyTheTwoQuotingModesRow : OpenClaim := { program := "qxb6001093a", sum := "164263db0ea4946d7ea305a223bc6b96199b1f337a1e293d288f13947e3e7712", func := "example.com/binrelay/binrelay/zzlaws_stmt_b1.FnScanReadsOnlyTheTwoQuotingModes", spec := "fnScanReadsOnlyTheTwoQuotingModes", inPlace := ["internal/bytealg.IndexByte", "internal/bytealg.Index"], named := ["internal/bytealg.MaxLen"], apart := false }
def FnScanReadsOnlyTheTwoQuotingModesSaid : Prop := fnScanReadsOnlyTheTwoQuotingModesRow.holds Try.pinned (OpenSpec.ofChange fnScanReadsOnlyTheTwoQuotingModesSpec)

/-- ITS FALSE NEIGHBOUR: 'it returns false'. Refute it at one input. -/
def fnScanReadsOnlyTheTwoQuotingModesWrong : ChangeSpec := { name := "fnScanReadsOnlyTheTwoQuotingModes", fn := fun _ => fun
  | [d1, d2, d3, d4, d5] => { results := [.lit (.bool false)], args := [d1, d2, d3, d4, d5] }
  | _ => none }
def FnScanReadsOnlyTheTwoQuotingModesWrongFalsely : Prop := fnScanReadsOnlyTheTwoQuotingModesRow.holds Try.pinned (OpenSpec.ofChange fnScanReadsOnlyTheTwoQuotingModesWrong)

end Rows
end Go.Proofs.Qxb6001093a
