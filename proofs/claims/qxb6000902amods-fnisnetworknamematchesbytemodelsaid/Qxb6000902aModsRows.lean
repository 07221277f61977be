/-
  No cell of these rows narrows 'for every input' (looked for: loops, veiled, ifaces, maps, wideKeys, modest, calm, conditions, laid).
  DERIVED. THE GIVEN ROWS OF THIS SEAT. 8 by the template 'for every input the law returns true; each argument reads behind the call as it read before'; 0 by the template 'total and deterministic' (their statements: Qxb6000902aModsTotals.lean).
  GIVEN WITH THE SEED: the statements are not yours to turn. If you find one false, say at which input.
  Laid BY PROGRAM, IN A SANDBOX (cutbox-rows.mjs): the forced cells as the released guide's own fill.sh prints them over the translation 4d81166010fb47fa… (all of the seat's roots in one cut). By AI agents, Wed Nov 11 2026. No macro, syntax, notation, axiom, sorry.
-/
import Derived.Test.Qxb6000902aModsChecked
import GoSem.Claim
import GoSem.ClaimJoined
import GoSem.ClaimMapViews
import Derived.JoinedTies
import Derived.KernelRfl
namespace Go.Proofs.Qxb6000902aMods
/- THE CELL 'sum', in the pinned program and in every row, IS THE sha256 OF THE DUMP (.gsa) THAT Qxb6000902aModsProg.lean LOADS. Nothing in Lean hashes anything: it is a label: what it is worth is what the hold of that sum in a sandbox is worth. -/
noncomputable def Trym.pinned : Pinned := { name := "qxb6000902amods", sum := "4d81166010fb47fa4439136f6db73d462352fcf02ebc64e3d2789f628d74e4f1", checked := Trym.checked }
namespace Rows
def none {H : Type} : Left H := { results := [], args := [] }

/-- 'zzlaws_pkg_addresses_b1.FnIsNetworkNameMatchesByteModel': WHATEVER THE INPUT: true; the input reads as it did. -/
def fnIsNetworkNameMatchesByteModelSpec : ChangeSpec := { name := "fnIsNetworkNameMatchesByteModel", fn := fun _ => fun
  | [d] => { results := [.lit (.bool true)], args := [d] }
  | _ => none }
def fnIsNetworkNameMatchesByteModelRow : OpenClaim := { program := "qxb6000902amods", sum := "4d81166010fb47fa4439136f6db73d462352fcf02ebc64e3d2789f628d74e4f1", func := "example.com/slicewright/slicewright/zzlaws_pkg_addresses_b1.FnIsNetworkNameMatchesByteModel", spec := "fnIsNetworkNameMatchesByteModel", make := .lifted ["publicsums"], apart := false }
def FnIsNetworkNameMatchesByteModelSaid : Prop := fnIsNetworkNameMatchesByteModelRow.holds Trym.pinned (OpenSpec.ofChange fnIsNetworkNameMatchesByteModelSpec)

/-- ITS FALSE NEIGHBOUR: 'it returns false'. Refute it at one input. -/
def fnIsNetworkNameMatchesByteModelWrong : ChangeSpec := { name := "fnIsNetworkNameMatchesByteModel", fn := fun _ => fun
  | [d] => { results := [.lit (.bool false)], args := [d] }
  | _ => none }
def FnIsNetworkNameMatchesByteModelWrongFalsely : Prop := fnIsNetworkNameMatchesByteModelRow.holds Trym.pinned (OpenSpec.ofChange fnIsNetworkNameMatchesByteModelWrong)

/-- 'zzlaws_pkg_addresses_b1.FnIsNetworkNameJoinsAndRefusesLeadingPunct': WHATEVER THE INPUT: true; the input reads as it did. -/
def fnIsNetworkNameJoinsAndRefusesLeadingPunctSpec : ChangeSpec := { name := "fnIsNetworkNameJoinsAndRefusesLeadingPunct", fn := fun _ => fun
  | [d1, d2] => { results := [.lit (.bool true)], args := [d1, d2] }
  | _ => none }
def fnIsNetworkNameJoinsAndRefusesLeadingPunctRow : OpenClaim := { program := "qxb6000902amods", sum := "4d81166010fb47fa4439136f6db73d462352fcf02ebc64e3d2789f628d74e4f1", func := "example.com/slicewright/slicewright/zzlaws_pkg_addresses_b1.FnIsNetworkNameJoinsAndRefusesLeadingPunct", spec := "fnIsNetworkNameJoinsAndRefusesLeadingPunct", make := .lifted ["publicsums"], apart := false }
def FnIsNetworkNameJoinsAndRefusesLeadingPunctSaid : Prop := fnIsNetworkNameJoinsAndRefusesLeadingPunctRow.holds Trym.pinned (OpenSpec.ofChange fnIsNetworkNameJoinsAndRefusesLeadingPunctSpec)

/-- ITS FALSE NEIGHBOUR: 'it returns false'. Refute it at one input. -/
def fnIsNetworkNameJoinsAndRefusesLeadingPunctWrong : ChangeSpec := { name := "fnIsNetworkNameJoinsAndRefusesLeadingPunct", fn := fun _ => fun
  | [d1, d2] => { results := [.lit (.bool false)], args := [d1, d2] }
  | _ => none }
def FnIsNetworkNameJoinsAndRefusesLeadingPunctWrongFalsely : Prop := fnIsNetworkNameJoinsAndRefusesLeadingPunctRow.holds Trym.pinned (OpenSpec.ofChange fnIsNetworkNameJoinsAndRefusesLeadingPunctWrong)

/-- 'zzlaws_pkg_addresses_b1.FnIsNetworkNamePrefixClosed': WHATEVER THE INPUT: true; the input reads as it did. -/
def fnIsNetworkNamePrefixClosedSpec : ChangeSpec := { name := "fnIsNetworkNamePrefixClosed", fn := fun _ => fun
  | [d1, d2] => { results := [.lit (.bool true)], args := [d1, d2] }
  | _ => none }
def fnIsNetworkNamePrefixClosedRow : OpenClaim := { program := "qxb6000902amods", sum := "4d81166010fb47fa4439136f6db73d462352fcf02ebc64e3d2789f628d74e4f1", func := "example.com/slicewright/slicewright/zzlaws_pkg_addresses_b1.FnIsNetworkNamePrefixClosed", spec := "fnIsNetworkNamePrefixClosed", make := .lifted ["publicsums"], apart := false }
def FnIsNetworkNamePrefixClosedSaid : Prop := fnIsNetworkNamePrefixClosedRow.holds Trym.pinned (OpenSpec.ofChange fnIsNetworkNamePrefixClosedSpec)

/-- ITS FALSE NEIGHBOUR: 'it returns false'. Refute it at one input. -/
def fnIsNetworkNamePrefixClosedWrong : ChangeSpec := { name := "fnIsNetworkNamePrefixClosed", fn := fun _ => fun
  | [d1, d2] => { results := [.lit (.bool false)], args := [d1, d2] }
  | _ => none }
def FnIsNetworkNamePrefixClosedWrongFalsely : Prop := fnIsNetworkNamePrefixClosedRow.holds Trym.pinned (OpenSpec.ofChange fnIsNetworkNamePrefixClosedWrong)

/-- 'zzlaws_pkg_addresses_b1.FnKindOfNamesEachJSONKind': WHATEVER THE INPUT: true; the input reads as it did. -/
def fnKindOfNamesEachJSONKindSpec : ChangeSpec := { name := "fnKindOfNamesEachJSONKind", fn := fun _ => fun
  | [d] => { results := [.lit (.bool true)], args := [d] }
  | _ => none }
def fnKindOfNamesEachJSONKindRow : OpenClaim := { program := "qxb6000902amods", sum := "4d81166010fb47fa4439136f6db73d462352fcf02ebc64e3d2789f628d74e4f1", func := "example.com/slicewright/slicewright/zzlaws_pkg_addresses_b1.FnKindOfNamesEachJSONKind", spec := "fnKindOfNamesEachJSONKind", inPlace := ["internal/bytealg.IndexByteString", "internal/bytealg.IndexString"], named := ["internal/bytealg.MaxLen"], make := .lifted ["publicsums"], apart := false }
def FnKindOfNamesEachJSONKindSaid : Prop := fnKindOfNamesEachJSONKindRow.holds Trym.pinned (OpenSpec.ofChange fnKindOfNamesEachJSONKindSpec)

/-- ITS FALSE NEIGHBOUR: 'it returns false'. Refute it at one input. -/
def fnKindOfNamesEachJSONKindWrong : ChangeSpec := { name := "fnKindOfNamesEachJSONKind", fn := fun _ => fun
  | [d] => { results := [.lit (.bool false)], args := [d] }
  | _ => none }
def FnKindOfNamesEachJSONKindWrongFalsely : Prop := fnKindOfNamesEachJSONKindRow.holds Trym.pinned (OpenSpec.ofChange fnKindOfNamesEachJSONKindWrong)

/-- 'zzlaws_pkg_addresses_b1.FnKindOfIdempotent': WHATEVER THE INPUT: true; the input reads as it did. -/
def fnKindOfIdempotentSpec : ChangeSpec := { name := "fnKindOfIdempotent", fn := fun _ => fun
  | [d] => { results := [.lit (.bool true)], args := [d] }
  | _ => none }
def fnKindOfIdempotentRow : OpenClaim := { program := "qxb6000902amods", sum := "4d81166010fb47fa4439136f6db73d462352fcf02ebc64e3d2789f628d74e4f1", func := "example.com/slicewright/slicewright/zzlaws_pkg_addresses_b1.FnKindOfIdempotent", spec := "fnKindOfIdempotent", inPlace := ["internal/bytealg.IndexByteString", "internal/bytealg.IndexString"], named := ["internal/bytealg.MaxLen"], make := .lifted ["publicsums"], apart := false }
def FnKindOfIdempotentSaid : Prop := fnKindOfIdempotentRow.holds Trym.pinned (OpenSpec.ofChange fnKindOfIdempotentSpec)

/-- ITS FALSE NEIGHBOUR: 'it returns false'. Refute it at one input. -/
def fnKindOfIdempotentWrong : ChangeSpec := { name := "fnKindOfIdempotent", fn := fun _ => fun
  | [d] => { results := [.lit (.bool false)], args := [d] }
  | _ => none }
def FnKindOfIdempotentWrongFalsely : Prop := fnKindOfIdempotentRow.holds Trym.pinned (OpenSpec.ofChange fnKindOfIdempotentWrong)

/-- 'zzlaws_pkg_addresses_b1.FnKindOfLeavesOtherTextAlone': WHATEVER THE INPUT: true; the input reads as it did. -/
def fnKindOfLeavesOtherTextAloneSpec : ChangeSpec := { name := "fnKindOfLeavesOtherTextAlone", fn := fun _ => fun
  | [d] => { results := [.lit (.bool true)], args := [d] }
  | _ => none }
def fnKindOfLeavesOtherTextAloneRow : OpenClaim := { program := "qxb6000902amods", sum := "4d81166010fb47fa4439136f6db73d462352fcf02ebc64e3d2789f628d74e4f1", func := "example.com/slicewright/slicewright/zzlaws_pkg_addresses_b1.FnKindOfLeavesOtherTextAlone", spec := "fnKindOfLeavesOtherTextAlone", inPlace := ["internal/bytealg.IndexByteString", "internal/bytealg.IndexString"], named := ["internal/bytealg.MaxLen"], make := .lifted ["publicsums"], apart := false }
def FnKindOfLeavesOtherTextAloneSaid : Prop := fnKindOfLeavesOtherTextAloneRow.holds Trym.pinned (OpenSpec.ofChange fnKindOfLeavesOtherTextAloneSpec)

/-- ITS FALSE NEIGHBOUR: 'it returns false'. Refute it at one input. -/
def fnKindOfLeavesOtherTextAloneWrong : ChangeSpec := { name := "fnKindOfLeavesOtherTextAlone", fn := fun _ => fun
  | [d] => { results := [.lit (.bool false)], args := [d] }
  | _ => none }
def FnKindOfLeavesOtherTextAloneWrongFalsely : Prop := fnKindOfLeavesOtherTextAloneRow.holds Trym.pinned (OpenSpec.ofChange fnKindOfLeavesOtherTextAloneWrong)

/-- 'zzlaws_pkg_addresses_b1.FnSourceStringRoundTrips': WHATEVER THE INPUT: true; the input reads as it did. -/
def fnSourceStringRoundTripsSpec : ChangeSpec := { name := "fnSourceStringRoundTrips", fn := fun _ => fun
  | [d] => { results := [.lit (.bool true)], args := [d] }
  | _ => none }
def fnSourceStringRoundTripsRow : OpenClaim := { program := "qxb6000902amods", sum := "4d81166010fb47fa4439136f6db73d462352fcf02ebc64e3d2789f628d74e4f1", func := "example.com/slicewright/slicewright/zzlaws_pkg_addresses_b1.FnSourceStringRoundTrips", spec := "fnSourceStringRoundTrips", make := .lifted ["publicsums"], apart := false }
def FnSourceStringRoundTripsSaid : Prop := fnSourceStringRoundTripsRow.holds Trym.pinned (OpenSpec.ofChange fnSourceStringRoundTripsSpec)

/-- ITS FALSE NEIGHBOUR: 'it returns false'. Refute it at one input. -/
def fnSourceStringRoundTripsWrong : ChangeSpec := { name := "fnSourceStringRoundTrips", fn := fun _ => fun
  | [d] => { results := [.lit (.bool false)], args := [d] }
  | _ => none }
def FnSourceStringRoundTripsWrongFalsely : Prop := fnSourceStringRoundTripsRow.holds Trym.pinned (OpenSpec.ofChange fnSourceStringRoundTripsWrong)

/-- 'zzlaws_pkg_addresses_b1.FnSourceStringInjective': WHATEVER THE INPUT: true; the input reads as it did. -/
def fnSourceStringInjectiveSpec : ChangeSpec := { name := "fnSourceStringInjective", fn := fun _ => fun
  | [d1, d2] => { results := [.lit (.bool true)], args := [d1, d2] }
  | _ => none }
def fnSourceStringInjectiveRow : OpenClaim := { program := "qxb6000902amods", sum := "4d81166010fb47fa4439136f6db73d462352fcf02ebc64e3d2789f628d74e4f1", func := "example.com/slicewright/slicewright/zzlaws_pkg_addresses_b1.FnSourceStringInjective", spec := "fnSourceStringInjective", make := .lifted ["publicsums"], apart := false }
def FnSourceStringInjectiveSaid : Prop := fnSourceStringInjectiveRow.holds Trym.pinned (OpenSpec.ofChange fnSourceStringInjectiveSpec)

/-- ITS FALSE NEIGHBOUR: 'it returns false'. Refute it at one input. -/
def fnSourceStringInjectiveWrong : ChangeSpec := { name := "fnSourceStringInjective", fn := fun _ => fun
  | [d1, d2] => { results := [.lit (.bool false)], args := [d1, d2] }
  | _ => none }
def FnSourceStringInjectiveWrongFalsely : Prop := fnSourceStringInjectiveRow.holds Trym.pinned (OpenSpec.ofChange fnSourceStringInjectiveWrong)

end Rows
end Go.Proofs.Qxb6000902aMods
