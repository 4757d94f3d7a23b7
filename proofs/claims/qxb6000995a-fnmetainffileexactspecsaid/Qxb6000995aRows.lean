/-
  No cell of these rows narrows 'for every input' (looked for: loops, veiled, ifaces, maps, wideKeys, modest, calm, conditions, laid).
  DERIVED. THE GIVEN ROWS OF THIS SEAT. 5 by the template 'for every input the law returns true; each argument reads behind the call as it read before'; 0 by the template 'total and deterministic' (their statements: Qxb6000995aTotals.lean).
  GIVEN WITH THE SEED: the statements are not yours to turn. If you find one false, say at which input.
  Laid BY PROGRAM, IN A SANDBOX (cutbox-rows.mjs): the forced cells as the released guide's own fill.sh prints them over the translation 8af1d3a0eafde7ef… (all of the seat's roots in one cut). By AI agents, Wed Nov 11 2026. No macro, syntax, notation, axiom, sorry.
-/
import Derived.Test.Qxb6000995aChecked
import GoSem.Claim
import GoSem.ClaimJoined
import GoSem.ClaimMapViews
import Derived.JoinedTies
import Derived.KernelRfl
namespace Go.Proofs.Qxb6000995a
/- THE CELL 'sum', in the pinned program and in every row, IS THE sha256 OF THE DUMP (.gsa) THAT Qxb6000995aProg.lean LOADS. Nothing in Lean hashes anything: it is a label: what it is worth is what the hold of that sum in a sandbox is worth. -/
noncomputable def Try.pinned : Pinned := { name := "qxb6000995a", sum := "8af1d3a0eafde7ef61cd3831a0b226cfec799201314f6f90c2d3926233cda4d3", checked := Try.checked }
namespace Rows
def none {H : Type} : Left H := { results := [], args := [] }

/-- 'zzlaws_root_b1.FnKeptForSignaturesCaseBlind': WHATEVER THE INPUT: true; the input reads as it did. -/
def fnKeptForSignaturesCaseBlindSpec : ChangeSpec := { name := "fnKeptForSignaturesCaseBlind", fn := fun _ => fun
  | [d] => { results := [.lit (.bool true)], args := [d] }
  | _ => none }
def fnKeptForSignaturesCaseBlindRow : OpenClaim := { program := "qxb6000995a", sum := "8af1d3a0eafde7ef61cd3831a0b226cfec799201314f6f90c2d3926233cda4d3", func := "example.com/packseal/packseal/zzlaws_root_b1.FnKeptForSignaturesCaseBlind", spec := "fnKeptForSignaturesCaseBlind", apart := false }
def FnKeptForSignaturesCaseBlindSaid : Prop := fnKeptForSignaturesCaseBlindRow.holds Try.pinned (OpenSpec.ofChange fnKeptForSignaturesCaseBlindSpec)

/-- ITS FALSE NEIGHBOUR: 'it returns false'. Refute it at one input. -/
def fnKeptForSignaturesCaseBlindWrong : ChangeSpec := { name := "fnKeptForSignaturesCaseBlind", fn := fun _ => fun
  | [d] => { results := [.lit (.bool false)], args := [d] }
  | _ => none }
def FnKeptForSignaturesCaseBlindWrongFalsely : Prop := fnKeptForSignaturesCaseBlindRow.holds Try.pinned (OpenSpec.ofChange fnKeptForSignaturesCaseBlindWrong)

/-- 'zzlaws_root_b1.FnKeptForSignaturesExtensionDecides': WHATEVER THE INPUT: true; the input reads as it did. -/
def fnKeptForSignaturesExtensionDecidesSpec : ChangeSpec := { name := "fnKeptForSignaturesExtensionDecides", fn := fun _ => fun
  | [d1, d2, d3] => { results := [.lit (.bool true)], args := [d1, d2, d3] }
  | _ => none }
def fnKeptForSignaturesExtensionDecidesRow : OpenClaim := { program := "qxb6000995a", sum := "8af1d3a0eafde7ef61cd3831a0b226cfec799201314f6f90c2d3926233cda4d3", func := "example.com/packseal/packseal/zzlaws_root_b1.FnKeptForSignaturesExtensionDecides", spec := "fnKeptForSignaturesExtensionDecides", apart := false }
def FnKeptForSignaturesExtensionDecidesSaid : Prop := fnKeptForSignaturesExtensionDecidesRow.holds Try.pinned (OpenSpec.ofChange fnKeptForSignaturesExtensionDecidesSpec)

/-- ITS FALSE NEIGHBOUR: 'it returns false'. Refute it at one input. -/
def fnKeptForSignaturesExtensionDecidesWrong : ChangeSpec := { name := "fnKeptForSignaturesExtensionDecides", fn := fun _ => fun
  | [d1, d2, d3] => { results := [.lit (.bool false)], args := [d1, d2, d3] }
  | _ => none }
def FnKeptForSignaturesExtensionDecidesWrongFalsely : Prop := fnKeptForSignaturesExtensionDecidesRow.holds Try.pinned (OpenSpec.ofChange fnKeptForSignaturesExtensionDecidesWrong)

/-- 'zzlaws_root_b1.FnMetaInfFileRoundTrip': WHATEVER THE INPUT: true; the input reads as it did. -/
def fnMetaInfFileRoundTripSpec : ChangeSpec := { name := "fnMetaInfFileRoundTrip", fn := fun _ => fun
  | [d1, d2] => { results := [.lit (.bool true)], args := [d1, d2] }
  | _ => none }
def fnMetaInfFileRoundTripRow : OpenClaim := { program := "qxb6000995a", sum := "8af1d3a0eafde7ef61cd3831a0b226cfec799201314f6f90c2d3926233cda4d3", func := "example.com/packseal/packseal/zzlaws_root_b1.FnMetaInfFileRoundTrip", spec := "fnMetaInfFileRoundTrip", inPlace := ["internal/bytealg.IndexByteString", "internal/bytealg.IndexString"], named := ["internal/bytealg.MaxLen"], apart := false }
def FnMetaInfFileRoundTripSaid : Prop := fnMetaInfFileRoundTripRow.holds Try.pinned (OpenSpec.ofChange fnMetaInfFileRoundTripSpec)

/-- ITS FALSE NEIGHBOUR: 'it returns false'. Refute it at one input. -/
def fnMetaInfFileRoundTripWrong : ChangeSpec := { name := "fnMetaInfFileRoundTrip", fn := fun _ => fun
  | [d1, d2] => { results := [.lit (.bool false)], args := [d1, d2] }
  | _ => none }
def FnMetaInfFileRoundTripWrongFalsely : Prop := fnMetaInfFileRoundTripRow.holds Try.pinned (OpenSpec.ofChange fnMetaInfFileRoundTripWrong)

/-- 'zzlaws_root_b1.FnMetaInfFileExactSpec': WHATEVER THE INPUT: true; the input reads as it did. -/
def fnMetaInfFileExactSpecSpec : ChangeSpec := { name := "fnMetaInfFileExactSpec", fn := fun _ => fun
  | [d] => { results := [.lit (.bool true)], args := [d] }
  | _ => none }
def fnMetaInfFileExactSpecRow : OpenClaim := { program := "qxb6000995a", sum := "8af1d3a0eafde7ef61cd3831a0b226cfec799201314f6f90c2d3926233cda4d3", func := "example.com/packseal/packseal/zzlaws_root_b1.FnMetaInfFileExactSpec", spec := "fnMetaInfFileExactSpec", inPlace := ["internal/bytealg.IndexByteString", "internal/bytealg.IndexString"], named := ["internal/bytealg.MaxLen"], apart := false }
def FnMetaInfFileExactSpecSaid : Prop := fnMetaInfFileExactSpecRow.holds Try.pinned (OpenSpec.ofChange fnMetaInfFileExactSpecSpec)

/-- ITS FALSE NEIGHBOUR: 'it returns false'. Refute it at one input. -/
def fnMetaInfFileExactSpecWrong : ChangeSpec := { name := "fnMetaInfFileExactSpec", fn := fun _ => fun
  | [d] => { results := [.lit (.bool false)], args := [d] }
  | _ => none }
def FnMetaInfFileExactSpecWrongFalsely : Prop := fnMetaInfFileExactSpecRow.holds Try.pinned (OpenSpec.ofChange fnMetaInfFileExactSpecWrong)

/-- 'zzlaws_root_b1.FnMetaInfFileCaseBlind': WHATEVER THE INPUT: true; the input reads as it did. -/
def fnMetaInfFileCaseBlindSpec : ChangeSpec := { name := "fnMetaInfFileCaseBlind", fn := fun _ => fun
  | [d1, d2] => { results := [.lit (.bool true)], args := [d1, d2] }
  | _ => none }
def fnMetaInfFileCaseBlindRow : OpenClaim := { program := "qxb6000995a", sum := "8af1d3a0eafde7ef61cd3831a0b226cfec799201314f6f90c2d3926233cda4d3", func := "example.com/packseal/packseal/zzlaws_root_b1.FnMetaInfFileCaseBlind", spec := "fnMetaInfFileCaseBlind", inPlace := ["internal/bytealg.IndexByteString", "internal/bytealg.IndexString"], named := ["internal/bytealg.MaxLen"], apart := false }
def FnMetaInfFileCaseBlindSaid : Prop := fnMetaInfFileCaseBlindRow.holds Try.pinned (OpenSpec.ofChange fnMetaInfFileCaseBlindSpec)

/-- ITS FALSE NEIGHBOUR: 'it returns false'. Refute it at one input. -/
def fnMetaInfFileCaseBlindWrong : ChangeSpec := { name := "fnMetaInfFileCaseBlind", fn := fun _ => fun
  | [d1, d2] => { results := [.lit (.bool false)], args := [d1, d2] }
  | _ => none }
def FnMetaInfFileCaseBlindWrongFalsely : Prop := fnMetaInfFileCaseBlindRow.holds Try.pinned (OpenSpec.ofChange fnMetaInfFileCaseBlindWrong)

end Rows
end Go.Proofs.Qxb6000995a
