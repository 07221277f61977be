/-
  No cell of these rows narrows 'for every input' (looked for: loops, veiled, ifaces, maps, wideKeys, modest, calm, conditions, laid).
  DERIVED. THE GIVEN ROWS OF THIS SEAT. 6 by the template 'for every input the law returns true; each argument reads behind the call as it read before'; 0 by the template 'total and deterministic' (their statements: Qxb6605413aModsTotals.lean).
  GIVEN WITH THE SEED: the statements are not yours to turn. If you find one false, say at which input.
  Laid BY PROGRAM, IN A SANDBOX (cutbox-rows.mjs): the forced cells as the released guide's own fill.sh prints them over the translation d7401363f94eed8c… (all of the seat's roots in one cut). By AI agents, Wed Nov 11 2026. No macro, syntax, notation, axiom, sorry.
-/
import Derived.Test.Qxb6605413aModsChecked
import GoSem.Claim
import GoSem.ClaimJoined
import GoSem.ClaimMapViews
import Derived.JoinedTies
import Derived.KernelRfl
namespace Go.Proofs.Qxb6605413aMods
/- THE CELL 'sum', in the pinned program and in every row, IS THE sha256 OF THE DUMP (.gsa) THAT Qxb6605413aModsProg.lean LOADS. Nothing in Lean hashes anything: it is a label: what it is worth is what the hold of that sum in a sandbox is worth. -/
noncomputable def Trym.pinned : Pinned := { name := "qxb6605413amods", sum := "d7401363f94eed8cd0d48a26454d9d06eaebe6e57d5588cbfa880f0e4ef2e141", checked := Trym.checked }
namespace Rows
def none {H : Type} : Left H := { results := [], args := [] }

/-- 'zzlaws_aez_b1.FnMulIsBytewiseGF256Product': WHATEVER THE INPUT: true; the input reads as it did. -/
def fnMulIsBytewiseGF256ProductSpec : ChangeSpec := { name := "fnMulIsBytewiseGF256Product", fn := fun _ => fun
  | [d1, d2] => { results := [.lit (.bool true)], args := [d1, d2] }
  | _ => none }
def fnMulIsBytewiseGF256ProductRow : OpenClaim := { program := "qxb6605413amods", sum := "d7401363f94eed8cd0d48a26454d9d06eaebe6e57d5588cbfa880f0e4ef2e141", func := "example.com/anchorhold/anchorhold/zzlaws_aez_b1.FnMulIsBytewiseGF256Product", spec := "fnMulIsBytewiseGF256Product", make := .lifted ["publicsums"], apart := false }
def FnMulIsBytewiseGF256ProductSaid : Prop := fnMulIsBytewiseGF256ProductRow.holds Trym.pinned (OpenSpec.ofChange fnMulIsBytewiseGF256ProductSpec)

/-- ITS FALSE NEIGHBOUR: 'it returns false'. Refute it at one input. -/
def fnMulIsBytewiseGF256ProductWrong : ChangeSpec := { name := "fnMulIsBytewiseGF256Product", fn := fun _ => fun
  | [d1, d2] => { results := [.lit (.bool false)], args := [d1, d2] }
  | _ => none }
def FnMulIsBytewiseGF256ProductWrongFalsely : Prop := fnMulIsBytewiseGF256ProductRow.holds Trym.pinned (OpenSpec.ofChange fnMulIsBytewiseGF256ProductWrong)

/-- 'zzlaws_aez_b1.FnMulObeysFieldLaws': WHATEVER THE INPUT: true; the input reads as it did. -/
def fnMulObeysFieldLawsSpec : ChangeSpec := { name := "fnMulObeysFieldLaws", fn := fun _ => fun
  | [d1, d2, d3] => { results := [.lit (.bool true)], args := [d1, d2, d3] }
  | _ => none }
def fnMulObeysFieldLawsRow : OpenClaim := { program := "qxb6605413amods", sum := "d7401363f94eed8cd0d48a26454d9d06eaebe6e57d5588cbfa880f0e4ef2e141", func := "example.com/anchorhold/anchorhold/zzlaws_aez_b1.FnMulObeysFieldLaws", spec := "fnMulObeysFieldLaws", make := .lifted ["publicsums"], apart := false }
def FnMulObeysFieldLawsSaid : Prop := fnMulObeysFieldLawsRow.holds Trym.pinned (OpenSpec.ofChange fnMulObeysFieldLawsSpec)

/-- ITS FALSE NEIGHBOUR: 'it returns false'. Refute it at one input. -/
def fnMulObeysFieldLawsWrong : ChangeSpec := { name := "fnMulObeysFieldLaws", fn := fun _ => fun
  | [d1, d2, d3] => { results := [.lit (.bool false)], args := [d1, d2, d3] }
  | _ => none }
def FnMulObeysFieldLawsWrongFalsely : Prop := fnMulObeysFieldLawsRow.holds Trym.pinned (OpenSpec.ofChange fnMulObeysFieldLawsWrong)

/-- 'zzlaws_aez_b1.FnInverseIsBytewiseFieldInverse': WHATEVER THE INPUT: true; the input reads as it did. -/
def fnInverseIsBytewiseFieldInverseSpec : ChangeSpec := { name := "fnInverseIsBytewiseFieldInverse", fn := fun _ => fun
  | [d] => { results := [.lit (.bool true)], args := [d] }
  | _ => none }
def fnInverseIsBytewiseFieldInverseRow : OpenClaim := { program := "qxb6605413amods", sum := "d7401363f94eed8cd0d48a26454d9d06eaebe6e57d5588cbfa880f0e4ef2e141", func := "example.com/anchorhold/anchorhold/zzlaws_aez_b1.FnInverseIsBytewiseFieldInverse", spec := "fnInverseIsBytewiseFieldInverse", make := .lifted ["publicsums"], apart := false }
def FnInverseIsBytewiseFieldInverseSaid : Prop := fnInverseIsBytewiseFieldInverseRow.holds Trym.pinned (OpenSpec.ofChange fnInverseIsBytewiseFieldInverseSpec)

/-- ITS FALSE NEIGHBOUR: 'it returns false'. Refute it at one input. -/
def fnInverseIsBytewiseFieldInverseWrong : ChangeSpec := { name := "fnInverseIsBytewiseFieldInverse", fn := fun _ => fun
  | [d] => { results := [.lit (.bool false)], args := [d] }
  | _ => none }
def FnInverseIsBytewiseFieldInverseWrongFalsely : Prop := fnInverseIsBytewiseFieldInverseRow.holds Trym.pinned (OpenSpec.ofChange fnInverseIsBytewiseFieldInverseWrong)

/-- 'zzlaws_aez_b1.FnInverseIsInvolutionAndCancels': WHATEVER THE INPUT: true; the input reads as it did. -/
def fnInverseIsInvolutionAndCancelsSpec : ChangeSpec := { name := "fnInverseIsInvolutionAndCancels", fn := fun _ => fun
  | [d] => { results := [.lit (.bool true)], args := [d] }
  | _ => none }
def fnInverseIsInvolutionAndCancelsRow : OpenClaim := { program := "qxb6605413amods", sum := "d7401363f94eed8cd0d48a26454d9d06eaebe6e57d5588cbfa880f0e4ef2e141", func := "example.com/anchorhold/anchorhold/zzlaws_aez_b1.FnInverseIsInvolutionAndCancels", spec := "fnInverseIsInvolutionAndCancels", make := .lifted ["publicsums"], apart := false }
def FnInverseIsInvolutionAndCancelsSaid : Prop := fnInverseIsInvolutionAndCancelsRow.holds Trym.pinned (OpenSpec.ofChange fnInverseIsInvolutionAndCancelsSpec)

/-- ITS FALSE NEIGHBOUR: 'it returns false'. Refute it at one input. -/
def fnInverseIsInvolutionAndCancelsWrong : ChangeSpec := { name := "fnInverseIsInvolutionAndCancels", fn := fun _ => fun
  | [d] => { results := [.lit (.bool false)], args := [d] }
  | _ => none }
def FnInverseIsInvolutionAndCancelsWrongFalsely : Prop := fnInverseIsInvolutionAndCancelsRow.holds Trym.pinned (OpenSpec.ofChange fnInverseIsInvolutionAndCancelsWrong)

/-- 'zzlaws_aez_b1.FnDoubleIsProductByX': WHATEVER THE INPUT: true; the input reads as it did. -/
def fnDoubleIsProductByXSpec : ChangeSpec := { name := "fnDoubleIsProductByX", fn := fun _ => fun
  | [d] => { results := [.lit (.bool true)], args := [d] }
  | _ => none }
def fnDoubleIsProductByXRow : OpenClaim := { program := "qxb6605413amods", sum := "d7401363f94eed8cd0d48a26454d9d06eaebe6e57d5588cbfa880f0e4ef2e141", func := "example.com/anchorhold/anchorhold/zzlaws_aez_b1.FnDoubleIsProductByX", spec := "fnDoubleIsProductByX", make := .lifted ["publicsums"], apart := false }
def FnDoubleIsProductByXSaid : Prop := fnDoubleIsProductByXRow.holds Trym.pinned (OpenSpec.ofChange fnDoubleIsProductByXSpec)

/-- ITS FALSE NEIGHBOUR: 'it returns false'. Refute it at one input. -/
def fnDoubleIsProductByXWrong : ChangeSpec := { name := "fnDoubleIsProductByX", fn := fun _ => fun
  | [d] => { results := [.lit (.bool false)], args := [d] }
  | _ => none }
def FnDoubleIsProductByXWrongFalsely : Prop := fnDoubleIsProductByXRow.holds Trym.pinned (OpenSpec.ofChange fnDoubleIsProductByXWrong)

/-- 'zzlaws_aez_b1.FnDoubleTimes128IsProductBy0x87': WHATEVER THE INPUT: true; the input reads as it did. -/
def fnDoubleTimes128IsProductBy0x87Spec : ChangeSpec := { name := "fnDoubleTimes128IsProductBy0x87", fn := fun _ => fun
  | [d] => { results := [.lit (.bool true)], args := [d] }
  | _ => none }
def fnDoubleTimes128IsProductBy0x87Row : OpenClaim := { program := "qxb6605413amods", sum := "d7401363f94eed8cd0d48a26454d9d06eaebe6e57d5588cbfa880f0e4ef2e141", func := "example.com/anchorhold/anchorhold/zzlaws_aez_b1.FnDoubleTimes128IsProductBy0x87", spec := "fnDoubleTimes128IsProductBy0x87", make := .lifted ["publicsums"], apart := false }
def FnDoubleTimes128IsProductBy0x87Said : Prop := fnDoubleTimes128IsProductBy0x87Row.holds Trym.pinned (OpenSpec.ofChange fnDoubleTimes128IsProductBy0x87Spec)

/-- ITS FALSE NEIGHBOUR: 'it returns false'. Refute it at one input. -/
def fnDoubleTimes128IsProductBy0x87Wrong : ChangeSpec := { name := "fnDoubleTimes128IsProductBy0x87", fn := fun _ => fun
  | [d] => { results := [.lit (.bool false)], args := [d] }
  | _ => none }
def FnDoubleTimes128IsProductBy0x87WrongFalsely : Prop := fnDoubleTimes128IsProductBy0x87Row.holds Trym.pinned (OpenSpec.ofChange fnDoubleTimes128IsProductBy0x87Wrong)

end Rows
end Go.Proofs.Qxb6605413aMods
