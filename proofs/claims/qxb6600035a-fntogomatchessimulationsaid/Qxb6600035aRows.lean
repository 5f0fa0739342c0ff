/-
  No cell of these rows narrows 'for every input' (looked for: loops, veiled, ifaces, maps, wideKeys, modest, calm, conditions, laid).
  DERIVED. THE GIVEN ROWS OF THIS SEAT. 8 by the template 'for every input the law returns true; each argument reads behind the call as it read before'; 0 by the template 'total and deterministic' (their statements: Qxb6600035aTotals.lean).
  GIVEN WITH THE SEED: the statements are not yours to turn. If you find one false, say at which input.
  Laid BY PROGRAM, IN A SANDBOX (cutbox-rows.mjs): the forced cells as the released guide's own fill.sh prints them over the translation fe27fcb6a6b59408… (all of the seat's roots in one cut). By AI agents, Wed Nov 11 2026. No macro, syntax, notation, axiom, sorry.
-/
import Derived.Test.Qxb6600035aChecked
import GoSem.Claim
import GoSem.ClaimJoined
import GoSem.ClaimMapViews
import Derived.JoinedTies
import Derived.KernelRfl
namespace Go.Proofs.Qxb6600035a
/- THE CELL 'sum', in the pinned program and in every row, IS THE sha256 OF THE DUMP (.gsa) THAT Qxb6600035aProg.lean LOADS. Nothing in Lean hashes anything: it is a label: what it is worth is what the hold of that sum in a sandbox is worth. -/
noncomputable def Try.pinned : Pinned := { name := "qxb6600035a", sum := "fe27fcb6a6b5940867956b1ce22f171785e43cb0b6ecb6bc9c683b2853b548d5", checked := Try.checked }
namespace Rows
def none {H : Type} : Left H := { results := [], args := [] }

/-- 'zzlaws_root_b1.FnEqualFoldMatchesBitModel': WHATEVER THE INPUT: true; the input reads as it did. -/
def fnEqualFoldMatchesBitModelSpec : ChangeSpec := { name := "fnEqualFoldMatchesBitModel", fn := fun _ => fun
  | [d1, d2] => { results := [.lit (.bool true)], args := [d1, d2] }
  | _ => none }
def fnEqualFoldMatchesBitModelRow : OpenClaim := { program := "qxb6600035a", sum := "fe27fcb6a6b5940867956b1ce22f171785e43cb0b6ecb6bc9c683b2853b548d5", func := "example.com/convertrail/convertrail/zzlaws_root_b1.FnEqualFoldMatchesBitModel", spec := "fnEqualFoldMatchesBitModel", apart := false }
def FnEqualFoldMatchesBitModelSaid : Prop := fnEqualFoldMatchesBitModelRow.holds Try.pinned (OpenSpec.ofChange fnEqualFoldMatchesBitModelSpec)

/-- ITS FALSE NEIGHBOUR: 'it returns false'. Refute it at one input. -/
def fnEqualFoldMatchesBitModelWrong : ChangeSpec := { name := "fnEqualFoldMatchesBitModel", fn := fun _ => fun
  | [d1, d2] => { results := [.lit (.bool false)], args := [d1, d2] }
  | _ => none }
def FnEqualFoldMatchesBitModelWrongFalsely : Prop := fnEqualFoldMatchesBitModelRow.holds Try.pinned (OpenSpec.ofChange fnEqualFoldMatchesBitModelWrong)

/-- 'zzlaws_root_b1.FnEqualFoldIsAnEquivalence': WHATEVER THE INPUT: true; the input reads as it did. -/
def fnEqualFoldIsAnEquivalenceSpec : ChangeSpec := { name := "fnEqualFoldIsAnEquivalence", fn := fun _ => fun
  | [d1, d2, d3] => { results := [.lit (.bool true)], args := [d1, d2, d3] }
  | _ => none }
def fnEqualFoldIsAnEquivalenceRow : OpenClaim := { program := "qxb6600035a", sum := "fe27fcb6a6b5940867956b1ce22f171785e43cb0b6ecb6bc9c683b2853b548d5", func := "example.com/convertrail/convertrail/zzlaws_root_b1.FnEqualFoldIsAnEquivalence", spec := "fnEqualFoldIsAnEquivalence", apart := false }
def FnEqualFoldIsAnEquivalenceSaid : Prop := fnEqualFoldIsAnEquivalenceRow.holds Try.pinned (OpenSpec.ofChange fnEqualFoldIsAnEquivalenceSpec)

/-- ITS FALSE NEIGHBOUR: 'it returns false'. Refute it at one input. -/
def fnEqualFoldIsAnEquivalenceWrong : ChangeSpec := { name := "fnEqualFoldIsAnEquivalence", fn := fun _ => fun
  | [d1, d2, d3] => { results := [.lit (.bool false)], args := [d1, d2, d3] }
  | _ => none }
def FnEqualFoldIsAnEquivalenceWrongFalsely : Prop := fnEqualFoldIsAnEquivalenceRow.holds Try.pinned (OpenSpec.ofChange fnEqualFoldIsAnEquivalenceWrong)

/-- 'zzlaws_root_b1.FnEqualFoldRespectsConcatenation': WHATEVER THE INPUT: true; the input reads as it did. -/
def fnEqualFoldRespectsConcatenationSpec : ChangeSpec := { name := "fnEqualFoldRespectsConcatenation", fn := fun _ => fun
  | [d1, d2, d3, d4] => { results := [.lit (.bool true)], args := [d1, d2, d3, d4] }
  | _ => none }
def fnEqualFoldRespectsConcatenationRow : OpenClaim := { program := "qxb6600035a", sum := "fe27fcb6a6b5940867956b1ce22f171785e43cb0b6ecb6bc9c683b2853b548d5", func := "example.com/convertrail/convertrail/zzlaws_root_b1.FnEqualFoldRespectsConcatenation", spec := "fnEqualFoldRespectsConcatenation", apart := false }
def FnEqualFoldRespectsConcatenationSaid : Prop := fnEqualFoldRespectsConcatenationRow.holds Try.pinned (OpenSpec.ofChange fnEqualFoldRespectsConcatenationSpec)

/-- ITS FALSE NEIGHBOUR: 'it returns false'. Refute it at one input. -/
def fnEqualFoldRespectsConcatenationWrong : ChangeSpec := { name := "fnEqualFoldRespectsConcatenation", fn := fun _ => fun
  | [d1, d2, d3, d4] => { results := [.lit (.bool false)], args := [d1, d2, d3, d4] }
  | _ => none }
def FnEqualFoldRespectsConcatenationWrongFalsely : Prop := fnEqualFoldRespectsConcatenationRow.holds Try.pinned (OpenSpec.ofChange fnEqualFoldRespectsConcatenationWrong)

/-- 'zzlaws_root_b1.FnIsCodeMatchesByteModel': WHATEVER THE INPUT: true; the input reads as it did. -/
def fnIsCodeMatchesByteModelSpec : ChangeSpec := { name := "fnIsCodeMatchesByteModel", fn := fun _ => fun
  | [d] => { results := [.lit (.bool true)], args := [d] }
  | _ => none }
def fnIsCodeMatchesByteModelRow : OpenClaim := { program := "qxb6600035a", sum := "fe27fcb6a6b5940867956b1ce22f171785e43cb0b6ecb6bc9c683b2853b548d5", func := "example.com/convertrail/convertrail/zzlaws_root_b1.FnIsCodeMatchesByteModel", spec := "fnIsCodeMatchesByteModel", apart := false }
def FnIsCodeMatchesByteModelSaid : Prop := fnIsCodeMatchesByteModelRow.holds Try.pinned (OpenSpec.ofChange fnIsCodeMatchesByteModelSpec)

/-- ITS FALSE NEIGHBOUR: 'it returns false'. Refute it at one input. -/
def fnIsCodeMatchesByteModelWrong : ChangeSpec := { name := "fnIsCodeMatchesByteModel", fn := fun _ => fun
  | [d] => { results := [.lit (.bool false)], args := [d] }
  | _ => none }
def FnIsCodeMatchesByteModelWrongFalsely : Prop := fnIsCodeMatchesByteModelRow.holds Try.pinned (OpenSpec.ofChange fnIsCodeMatchesByteModelWrong)

/-- 'zzlaws_root_b1.FnIsCodeIsSixDigitNumbers': WHATEVER THE INPUT: true; the input reads as it did. -/
def fnIsCodeIsSixDigitNumbersSpec : ChangeSpec := { name := "fnIsCodeIsSixDigitNumbers", fn := fun _ => fun
  | [d1, d2] => { results := [.lit (.bool true)], args := [d1, d2] }
  | _ => none }
def fnIsCodeIsSixDigitNumbersRow : OpenClaim := { program := "qxb6600035a", sum := "fe27fcb6a6b5940867956b1ce22f171785e43cb0b6ecb6bc9c683b2853b548d5", func := "example.com/convertrail/convertrail/zzlaws_root_b1.FnIsCodeIsSixDigitNumbers", spec := "fnIsCodeIsSixDigitNumbers", apart := false }
def FnIsCodeIsSixDigitNumbersSaid : Prop := fnIsCodeIsSixDigitNumbersRow.holds Try.pinned (OpenSpec.ofChange fnIsCodeIsSixDigitNumbersSpec)

/-- ITS FALSE NEIGHBOUR: 'it returns false'. Refute it at one input. -/
def fnIsCodeIsSixDigitNumbersWrong : ChangeSpec := { name := "fnIsCodeIsSixDigitNumbers", fn := fun _ => fun
  | [d1, d2] => { results := [.lit (.bool false)], args := [d1, d2] }
  | _ => none }
def FnIsCodeIsSixDigitNumbersWrongFalsely : Prop := fnIsCodeIsSixDigitNumbersRow.holds Try.pinned (OpenSpec.ofChange fnIsCodeIsSixDigitNumbersWrong)

/-- 'zzlaws_root_b1.FnToGoMatchesSimulation': WHATEVER THE INPUT: true; the input reads as it did. -/
def fnToGoMatchesSimulationSpec : ChangeSpec := { name := "fnToGoMatchesSimulation", fn := fun _ => fun
  | [d1, d2, d3, d4] => { results := [.lit (.bool true)], args := [d1, d2, d3, d4] }
  | _ => none }
def fnToGoMatchesSimulationRow : OpenClaim := { program := "qxb6600035a", sum := "fe27fcb6a6b5940867956b1ce22f171785e43cb0b6ecb6bc9c683b2853b548d5", func := "example.com/convertrail/convertrail/zzlaws_root_b1.FnToGoMatchesSimulation", spec := "fnToGoMatchesSimulation", apart := false }
def FnToGoMatchesSimulationSaid : Prop := fnToGoMatchesSimulationRow.holds Try.pinned (OpenSpec.ofChange fnToGoMatchesSimulationSpec)

/-- ITS FALSE NEIGHBOUR: 'it returns false'. Refute it at one input. -/
def fnToGoMatchesSimulationWrong : ChangeSpec := { name := "fnToGoMatchesSimulation", fn := fun _ => fun
  | [d1, d2, d3, d4] => { results := [.lit (.bool false)], args := [d1, d2, d3, d4] }
  | _ => none }
def FnToGoMatchesSimulationWrongFalsely : Prop := fnToGoMatchesSimulationRow.holds Try.pinned (OpenSpec.ofChange fnToGoMatchesSimulationWrong)

/-- 'zzlaws_root_b1.FnToGoBoundsAndOrder': WHATEVER THE INPUT: true; the input reads as it did. -/
def fnToGoBoundsAndOrderSpec : ChangeSpec := { name := "fnToGoBoundsAndOrder", fn := fun _ => fun
  | [d1, d2, d3, d4] => { results := [.lit (.bool true)], args := [d1, d2, d3, d4] }
  | _ => none }
def fnToGoBoundsAndOrderRow : OpenClaim := { program := "qxb6600035a", sum := "fe27fcb6a6b5940867956b1ce22f171785e43cb0b6ecb6bc9c683b2853b548d5", func := "example.com/convertrail/convertrail/zzlaws_root_b1.FnToGoBoundsAndOrder", spec := "fnToGoBoundsAndOrder", apart := false }
def FnToGoBoundsAndOrderSaid : Prop := fnToGoBoundsAndOrderRow.holds Try.pinned (OpenSpec.ofChange fnToGoBoundsAndOrderSpec)

/-- ITS FALSE NEIGHBOUR: 'it returns false'. Refute it at one input. -/
def fnToGoBoundsAndOrderWrong : ChangeSpec := { name := "fnToGoBoundsAndOrder", fn := fun _ => fun
  | [d1, d2, d3, d4] => { results := [.lit (.bool false)], args := [d1, d2, d3, d4] }
  | _ => none }
def FnToGoBoundsAndOrderWrongFalsely : Prop := fnToGoBoundsAndOrderRow.holds Try.pinned (OpenSpec.ofChange fnToGoBoundsAndOrderWrong)

/-- 'zzlaws_root_b1.FnToGoStepsDownOnAPassingDay': WHATEVER THE INPUT: true; the input reads as it did. -/
def fnToGoStepsDownOnAPassingDaySpec : ChangeSpec := { name := "fnToGoStepsDownOnAPassingDay", fn := fun _ => fun
  | [d1, d2, d3, d4] => { results := [.lit (.bool true)], args := [d1, d2, d3, d4] }
  | _ => none }
def fnToGoStepsDownOnAPassingDayRow : OpenClaim := { program := "qxb6600035a", sum := "fe27fcb6a6b5940867956b1ce22f171785e43cb0b6ecb6bc9c683b2853b548d5", func := "example.com/convertrail/convertrail/zzlaws_root_b1.FnToGoStepsDownOnAPassingDay", spec := "fnToGoStepsDownOnAPassingDay", apart := false }
def FnToGoStepsDownOnAPassingDaySaid : Prop := fnToGoStepsDownOnAPassingDayRow.holds Try.pinned (OpenSpec.ofChange fnToGoStepsDownOnAPassingDaySpec)

/-- ITS FALSE NEIGHBOUR: 'it returns false'. Refute it at one input. -/
def fnToGoStepsDownOnAPassingDayWrong : ChangeSpec := { name := "fnToGoStepsDownOnAPassingDay", fn := fun _ => fun
  | [d1, d2, d3, d4] => { results := [.lit (.bool false)], args := [d1, d2, d3, d4] }
  | _ => none }
def FnToGoStepsDownOnAPassingDayWrongFalsely : Prop := fnToGoStepsDownOnAPassingDayRow.holds Try.pinned (OpenSpec.ofChange fnToGoStepsDownOnAPassingDayWrong)

end Rows
end Go.Proofs.Qxb6600035a
