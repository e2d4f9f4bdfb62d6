/-
  NARROWER THAN 'FOR EVERY INPUT', by the rows' own cells (each row's printed sentence says how): FnAppliesToOneMoreFlavor: maps.
  DERIVED. THE GIVEN ROWS OF THIS SEAT. 6 by the template 'for every input the law returns true; each argument reads behind the call as it read before'; 0 by the template 'total and deterministic' (their statements: Qxb6602626aModsTotals.lean).
  GIVEN WITH THE SEED: the statements are not yours to turn. If you find one false, say at which input.
  Laid BY PROGRAM, IN A SANDBOX (cutbox-rows.mjs): the forced cells as the released guide's own fill.sh prints them over the translation ff482ff2efeaf4d6… (all of the seat's roots in one cut). By AI agents, Wed Nov 11 2026. No macro, syntax, notation, axiom, sorry.
-/
import Derived.Test.Qxb6602626aModsChecked
import GoSem.Claim
import GoSem.ClaimJoined
import GoSem.ClaimMapViews
import Derived.JoinedTies
import Derived.KernelRfl
namespace Go.Proofs.Qxb6602626aMods
/- THE CELL 'sum', in the pinned program and in every row, IS THE sha256 OF THE DUMP (.gsa) THAT Qxb6602626aModsProg.lean LOADS. Nothing in Lean hashes anything: it is a label: what it is worth is what the hold of that sum in a sandbox is worth. -/
noncomputable def Trym.pinned : Pinned := { name := "qxb6602626amods", sum := "ff482ff2efeaf4d65d1740a31a76c17362248345cd0f5350942b9ff26fab5b76", checked := Trym.checked }
namespace Rows
def none {H : Type} : Left H := { results := [], args := [] }

/-- 'zzlaws_admission_b1.FnListedInsertEraseReverse': WHATEVER THE INPUT: true; the input reads as it did. -/
def fnListedInsertEraseReverseSpec : ChangeSpec := { name := "fnListedInsertEraseReverse", fn := fun _ => fun
  | [d1, d2, d3] => { results := [.lit (.bool true)], args := [d1, d2, d3] }
  | _ => none }
def fnListedInsertEraseReverseRow : OpenClaim := { program := "qxb6602626amods", sum := "ff482ff2efeaf4d65d1740a31a76c17362248345cd0f5350942b9ff26fab5b76", func := "example.com/portcullis/portcullis/zzlaws_admission_b1.FnListedInsertEraseReverse", spec := "fnListedInsertEraseReverse", make := .lifted ["publicsums"], apart := false }
def FnListedInsertEraseReverseSaid : Prop := fnListedInsertEraseReverseRow.holds Trym.pinned (OpenSpec.ofChange fnListedInsertEraseReverseSpec)

/-- ITS FALSE NEIGHBOUR: 'it returns false'. Refute it at one input. -/
def fnListedInsertEraseReverseWrong : ChangeSpec := { name := "fnListedInsertEraseReverse", fn := fun _ => fun
  | [d1, d2, d3] => { results := [.lit (.bool false)], args := [d1, d2, d3] }
  | _ => none }
def FnListedInsertEraseReverseWrongFalsely : Prop := fnListedInsertEraseReverseRow.holds Trym.pinned (OpenSpec.ofChange fnListedInsertEraseReverseWrong)

/-- 'zzlaws_admission_b1.FnAppliesToOneMoreFlavor': WHATEVER THE INPUT: true; the input reads as it did. -/
def fnAppliesToOneMoreFlavorSpec : ChangeSpec := { name := "fnAppliesToOneMoreFlavor", fn := fun _ => fun
  | [d1, d2, d3, d4, d5] => { results := [.lit (.bool true)], args := [d1, d2, d3, d4, d5] }
  | _ => none }
def fnAppliesToOneMoreFlavorRow : OpenClaim := { program := "qxb6602626amods", sum := "ff482ff2efeaf4d65d1740a31a76c17362248345cd0f5350942b9ff26fab5b76", func := "example.com/portcullis/portcullis/zzlaws_admission_b1.FnAppliesToOneMoreFlavor", spec := "fnAppliesToOneMoreFlavor", maps := true, make := .lifted ["publicsums"], apart := false }
def FnAppliesToOneMoreFlavorSaid : Prop := fnAppliesToOneMoreFlavorRow.holds Trym.pinned (OpenSpec.ofChange fnAppliesToOneMoreFlavorSpec)

/-- ITS FALSE NEIGHBOUR: 'it returns false'. Refute it at one input. -/
def fnAppliesToOneMoreFlavorWrong : ChangeSpec := { name := "fnAppliesToOneMoreFlavor", fn := fun _ => fun
  | [d1, d2, d3, d4, d5] => { results := [.lit (.bool false)], args := [d1, d2, d3, d4, d5] }
  | _ => none }
def FnAppliesToOneMoreFlavorWrongFalsely : Prop := fnAppliesToOneMoreFlavorRow.holds Trym.pinned (OpenSpec.ofChange fnAppliesToOneMoreFlavorWrong)

/-- 'zzlaws_admission_b1.FnAppliesToOneAssignedFlavor': WHATEVER THE INPUT: true; the input reads as it did. -/
def fnAppliesToOneAssignedFlavorSpec : ChangeSpec := { name := "fnAppliesToOneAssignedFlavor", fn := fun _ => fun
  | [d1, d2, d3] => { results := [.lit (.bool true)], args := [d1, d2, d3] }
  | _ => none }
def fnAppliesToOneAssignedFlavorRow : OpenClaim := { program := "qxb6602626amods", sum := "ff482ff2efeaf4d65d1740a31a76c17362248345cd0f5350942b9ff26fab5b76", func := "example.com/portcullis/portcullis/zzlaws_admission_b1.FnAppliesToOneAssignedFlavor", spec := "fnAppliesToOneAssignedFlavor", make := .lifted ["publicsums"], apart := false }
def FnAppliesToOneAssignedFlavorSaid : Prop := fnAppliesToOneAssignedFlavorRow.holds Trym.pinned (OpenSpec.ofChange fnAppliesToOneAssignedFlavorSpec)

/-- ITS FALSE NEIGHBOUR: 'it returns false'. Refute it at one input. -/
def fnAppliesToOneAssignedFlavorWrong : ChangeSpec := { name := "fnAppliesToOneAssignedFlavor", fn := fun _ => fun
  | [d1, d2, d3] => { results := [.lit (.bool false)], args := [d1, d2, d3] }
  | _ => none }
def FnAppliesToOneAssignedFlavorWrongFalsely : Prop := fnAppliesToOneAssignedFlavorRow.holds Trym.pinned (OpenSpec.ofChange fnAppliesToOneAssignedFlavorWrong)

/-- 'zzlaws_admission_b1.FnBackoffDelayMatchesSaturatedPower': WHATEVER THE INPUT: true; the input reads as it did. -/
def fnBackoffDelayMatchesSaturatedPowerSpec : ChangeSpec := { name := "fnBackoffDelayMatchesSaturatedPower", fn := fun _ => fun
  | [d1, d2, d3, d4] => { results := [.lit (.bool true)], args := [d1, d2, d3, d4] }
  | _ => none }
def fnBackoffDelayMatchesSaturatedPowerRow : OpenClaim := { program := "qxb6602626amods", sum := "ff482ff2efeaf4d65d1740a31a76c17362248345cd0f5350942b9ff26fab5b76", func := "example.com/portcullis/portcullis/zzlaws_admission_b1.FnBackoffDelayMatchesSaturatedPower", spec := "fnBackoffDelayMatchesSaturatedPower", make := .lifted ["publicsums"], apart := false }
def FnBackoffDelayMatchesSaturatedPowerSaid : Prop := fnBackoffDelayMatchesSaturatedPowerRow.holds Trym.pinned (OpenSpec.ofChange fnBackoffDelayMatchesSaturatedPowerSpec)

/-- ITS FALSE NEIGHBOUR: 'it returns false'. Refute it at one input. -/
def fnBackoffDelayMatchesSaturatedPowerWrong : ChangeSpec := { name := "fnBackoffDelayMatchesSaturatedPower", fn := fun _ => fun
  | [d1, d2, d3, d4] => { results := [.lit (.bool false)], args := [d1, d2, d3, d4] }
  | _ => none }
def FnBackoffDelayMatchesSaturatedPowerWrongFalsely : Prop := fnBackoffDelayMatchesSaturatedPowerRow.holds Trym.pinned (OpenSpec.ofChange fnBackoffDelayMatchesSaturatedPowerWrong)

/-- 'zzlaws_admission_b1.FnBackoffDelayStepsByFactor': WHATEVER THE INPUT: true; the input reads as it did. -/
def fnBackoffDelayStepsByFactorSpec : ChangeSpec := { name := "fnBackoffDelayStepsByFactor", fn := fun _ => fun
  | [d1, d2, d3, d4] => { results := [.lit (.bool true)], args := [d1, d2, d3, d4] }
  | _ => none }
def fnBackoffDelayStepsByFactorRow : OpenClaim := { program := "qxb6602626amods", sum := "ff482ff2efeaf4d65d1740a31a76c17362248345cd0f5350942b9ff26fab5b76", func := "example.com/portcullis/portcullis/zzlaws_admission_b1.FnBackoffDelayStepsByFactor", spec := "fnBackoffDelayStepsByFactor", make := .lifted ["publicsums"], apart := false }
def FnBackoffDelayStepsByFactorSaid : Prop := fnBackoffDelayStepsByFactorRow.holds Trym.pinned (OpenSpec.ofChange fnBackoffDelayStepsByFactorSpec)

/-- ITS FALSE NEIGHBOUR: 'it returns false'. Refute it at one input. -/
def fnBackoffDelayStepsByFactorWrong : ChangeSpec := { name := "fnBackoffDelayStepsByFactor", fn := fun _ => fun
  | [d1, d2, d3, d4] => { results := [.lit (.bool false)], args := [d1, d2, d3, d4] }
  | _ => none }
def FnBackoffDelayStepsByFactorWrongFalsely : Prop := fnBackoffDelayStepsByFactorRow.holds Trym.pinned (OpenSpec.ofChange fnBackoffDelayStepsByFactorWrong)

/-- 'zzlaws_admission_b1.FnBackoffDelayMonotoneAndClamped': WHATEVER THE INPUT: true; the input reads as it did. -/
def fnBackoffDelayMonotoneAndClampedSpec : ChangeSpec := { name := "fnBackoffDelayMonotoneAndClamped", fn := fun _ => fun
  | [d1, d2, d3, d4, d5, d6, d7] => { results := [.lit (.bool true)], args := [d1, d2, d3, d4, d5, d6, d7] }
  | _ => none }
def fnBackoffDelayMonotoneAndClampedRow : OpenClaim := { program := "qxb6602626amods", sum := "ff482ff2efeaf4d65d1740a31a76c17362248345cd0f5350942b9ff26fab5b76", func := "example.com/portcullis/portcullis/zzlaws_admission_b1.FnBackoffDelayMonotoneAndClamped", spec := "fnBackoffDelayMonotoneAndClamped", make := .lifted ["publicsums"], apart := false }
def FnBackoffDelayMonotoneAndClampedSaid : Prop := fnBackoffDelayMonotoneAndClampedRow.holds Trym.pinned (OpenSpec.ofChange fnBackoffDelayMonotoneAndClampedSpec)

/-- ITS FALSE NEIGHBOUR: 'it returns false'. Refute it at one input. -/
def fnBackoffDelayMonotoneAndClampedWrong : ChangeSpec := { name := "fnBackoffDelayMonotoneAndClamped", fn := fun _ => fun
  | [d1, d2, d3, d4, d5, d6, d7] => { results := [.lit (.bool false)], args := [d1, d2, d3, d4, d5, d6, d7] }
  | _ => none }
def FnBackoffDelayMonotoneAndClampedWrongFalsely : Prop := fnBackoffDelayMonotoneAndClampedRow.holds Trym.pinned (OpenSpec.ofChange fnBackoffDelayMonotoneAndClampedWrong)

end Rows
end Go.Proofs.Qxb6602626aMods
