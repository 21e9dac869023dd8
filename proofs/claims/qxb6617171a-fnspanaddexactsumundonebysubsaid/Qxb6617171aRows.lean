/-
  No cell of these rows narrows 'for every input' (looked for: loops, veiled, ifaces, maps, wideKeys, modest, calm, conditions, laid).
  DERIVED. THE GIVEN ROWS OF THIS SEAT. 6 by the template 'for every input the law returns true; each argument reads behind the call as it read before'; 0 by the template 'total and deterministic' (their statements: Qxb6617171aTotals.lean).
  GIVEN WITH THE SEED: the statements are not yours to turn. If you find one false, say at which input.
  Laid BY PROGRAM, IN A SANDBOX (cutbox-rows.mjs): the forced cells as the released guide's own fill.sh prints them over the translation 4e9cbd1fdb835143… (all of the seat's roots in one cut). By AI agents, Wed Nov 11 2026. No macro, syntax, notation, axiom, sorry.
-/
import Derived.Test.Qxb6617171aChecked
import GoSem.Claim
import GoSem.ClaimJoined
import GoSem.ClaimMapViews
import Derived.JoinedTies
import Derived.KernelRfl
namespace Go.Proofs.Qxb6617171a
/- THE CELL 'sum', in the pinned program and in every row, IS THE sha256 OF THE DUMP (.gsa) THAT Qxb6617171aProg.lean LOADS. Nothing in Lean hashes anything: it is a label: what it is worth is what the hold of that sum in a sandbox is worth. -/
noncomputable def Try.pinned : Pinned := { name := "qxb6617171a", sum := "4e9cbd1fdb835143f41fc62017e5df94df5930f6823a4416db13689b5db3089f", checked := Try.checked }
namespace Rows
def none {H : Type} : Left H := { results := [], args := [] }

/-- 'zzlaws_internal_algo_b1.FnFloorDivEuclideanAndComplement': WHATEVER THE INPUT: true; the input reads as it did. -/
def fnFloorDivEuclideanAndComplementSpec : ChangeSpec := { name := "fnFloorDivEuclideanAndComplement", fn := fun _ => fun
  | [d1, d2] => { results := [.lit (.bool true)], args := [d1, d2] }
  | _ => none }
def fnFloorDivEuclideanAndComplementRow : OpenClaim := { program := "qxb6617171a", sum := "4e9cbd1fdb835143f41fc62017e5df94df5930f6823a4416db13689b5db3089f", func := "example.com/sluice/sluice/zzlaws_internal_algo_b1.FnFloorDivEuclideanAndComplement", spec := "fnFloorDivEuclideanAndComplement", apart := false }
def FnFloorDivEuclideanAndComplementSaid : Prop := fnFloorDivEuclideanAndComplementRow.holds Try.pinned (OpenSpec.ofChange fnFloorDivEuclideanAndComplementSpec)

/-- ITS FALSE NEIGHBOUR: 'it returns false'. Refute it at one input. -/
def fnFloorDivEuclideanAndComplementWrong : ChangeSpec := { name := "fnFloorDivEuclideanAndComplement", fn := fun _ => fun
  | [d1, d2] => { results := [.lit (.bool false)], args := [d1, d2] }
  | _ => none }
def FnFloorDivEuclideanAndComplementWrongFalsely : Prop := fnFloorDivEuclideanAndComplementRow.holds Try.pinned (OpenSpec.ofChange fnFloorDivEuclideanAndComplementWrong)

/-- 'zzlaws_internal_algo_b1.FnFloorDivStepsWithD': WHATEVER THE INPUT: true; the input reads as it did. -/
def fnFloorDivStepsWithDSpec : ChangeSpec := { name := "fnFloorDivStepsWithD", fn := fun _ => fun
  | [d1, d2] => { results := [.lit (.bool true)], args := [d1, d2] }
  | _ => none }
def fnFloorDivStepsWithDRow : OpenClaim := { program := "qxb6617171a", sum := "4e9cbd1fdb835143f41fc62017e5df94df5930f6823a4416db13689b5db3089f", func := "example.com/sluice/sluice/zzlaws_internal_algo_b1.FnFloorDivStepsWithD", spec := "fnFloorDivStepsWithD", apart := false }
def FnFloorDivStepsWithDSaid : Prop := fnFloorDivStepsWithDRow.holds Try.pinned (OpenSpec.ofChange fnFloorDivStepsWithDSpec)

/-- ITS FALSE NEIGHBOUR: 'it returns false'. Refute it at one input. -/
def fnFloorDivStepsWithDWrong : ChangeSpec := { name := "fnFloorDivStepsWithD", fn := fun _ => fun
  | [d1, d2] => { results := [.lit (.bool false)], args := [d1, d2] }
  | _ => none }
def FnFloorDivStepsWithDWrongFalsely : Prop := fnFloorDivStepsWithDRow.holds Try.pinned (OpenSpec.ofChange fnFloorDivStepsWithDWrong)

/-- 'zzlaws_internal_algo_b1.FnSpanAddExactSumUndoneBySub': WHATEVER THE INPUT: true; the input reads as it did. -/
def fnSpanAddExactSumUndoneBySubSpec : ChangeSpec := { name := "fnSpanAddExactSumUndoneBySub", fn := fun _ => fun
  | [d1, d2, d3, d4, d5] => { results := [.lit (.bool true)], args := [d1, d2, d3, d4, d5] }
  | _ => none }
def fnSpanAddExactSumUndoneBySubRow : OpenClaim := { program := "qxb6617171a", sum := "4e9cbd1fdb835143f41fc62017e5df94df5930f6823a4416db13689b5db3089f", func := "example.com/sluice/sluice/zzlaws_internal_algo_b1.FnSpanAddExactSumUndoneBySub", spec := "fnSpanAddExactSumUndoneBySub", apart := false }
def FnSpanAddExactSumUndoneBySubSaid : Prop := fnSpanAddExactSumUndoneBySubRow.holds Try.pinned (OpenSpec.ofChange fnSpanAddExactSumUndoneBySubSpec)

/-- ITS FALSE NEIGHBOUR: 'it returns false'. Refute it at one input. -/
def fnSpanAddExactSumUndoneBySubWrong : ChangeSpec := { name := "fnSpanAddExactSumUndoneBySub", fn := fun _ => fun
  | [d1, d2, d3, d4, d5] => { results := [.lit (.bool false)], args := [d1, d2, d3, d4, d5] }
  | _ => none }
def FnSpanAddExactSumUndoneBySubWrongFalsely : Prop := fnSpanAddExactSumUndoneBySubRow.holds Try.pinned (OpenSpec.ofChange fnSpanAddExactSumUndoneBySubWrong)

/-- 'zzlaws_internal_algo_b1.FnSpanAddCommutesAndAssociates': WHATEVER THE INPUT: true; the input reads as it did. -/
def fnSpanAddCommutesAndAssociatesSpec : ChangeSpec := { name := "fnSpanAddCommutesAndAssociates", fn := fun _ => fun
  | [d1, d2, d3, d4, d5, d6, d7] => { results := [.lit (.bool true)], args := [d1, d2, d3, d4, d5, d6, d7] }
  | _ => none }
def fnSpanAddCommutesAndAssociatesRow : OpenClaim := { program := "qxb6617171a", sum := "4e9cbd1fdb835143f41fc62017e5df94df5930f6823a4416db13689b5db3089f", func := "example.com/sluice/sluice/zzlaws_internal_algo_b1.FnSpanAddCommutesAndAssociates", spec := "fnSpanAddCommutesAndAssociates", apart := false }
def FnSpanAddCommutesAndAssociatesSaid : Prop := fnSpanAddCommutesAndAssociatesRow.holds Try.pinned (OpenSpec.ofChange fnSpanAddCommutesAndAssociatesSpec)

/-- ITS FALSE NEIGHBOUR: 'it returns false'. Refute it at one input. -/
def fnSpanAddCommutesAndAssociatesWrong : ChangeSpec := { name := "fnSpanAddCommutesAndAssociates", fn := fun _ => fun
  | [d1, d2, d3, d4, d5, d6, d7] => { results := [.lit (.bool false)], args := [d1, d2, d3, d4, d5, d6, d7] }
  | _ => none }
def FnSpanAddCommutesAndAssociatesWrongFalsely : Prop := fnSpanAddCommutesAndAssociatesRow.holds Try.pinned (OpenSpec.ofChange fnSpanAddCommutesAndAssociatesWrong)

/-- 'zzlaws_internal_algo_b1.FnSpanSubExactDifferenceUndoneByAdd': WHATEVER THE INPUT: true; the input reads as it did. -/
def fnSpanSubExactDifferenceUndoneByAddSpec : ChangeSpec := { name := "fnSpanSubExactDifferenceUndoneByAdd", fn := fun _ => fun
  | [d1, d2, d3, d4, d5] => { results := [.lit (.bool true)], args := [d1, d2, d3, d4, d5] }
  | _ => none }
def fnSpanSubExactDifferenceUndoneByAddRow : OpenClaim := { program := "qxb6617171a", sum := "4e9cbd1fdb835143f41fc62017e5df94df5930f6823a4416db13689b5db3089f", func := "example.com/sluice/sluice/zzlaws_internal_algo_b1.FnSpanSubExactDifferenceUndoneByAdd", spec := "fnSpanSubExactDifferenceUndoneByAdd", apart := false }
def FnSpanSubExactDifferenceUndoneByAddSaid : Prop := fnSpanSubExactDifferenceUndoneByAddRow.holds Try.pinned (OpenSpec.ofChange fnSpanSubExactDifferenceUndoneByAddSpec)

/-- ITS FALSE NEIGHBOUR: 'it returns false'. Refute it at one input. -/
def fnSpanSubExactDifferenceUndoneByAddWrong : ChangeSpec := { name := "fnSpanSubExactDifferenceUndoneByAdd", fn := fun _ => fun
  | [d1, d2, d3, d4, d5] => { results := [.lit (.bool false)], args := [d1, d2, d3, d4, d5] }
  | _ => none }
def FnSpanSubExactDifferenceUndoneByAddWrongFalsely : Prop := fnSpanSubExactDifferenceUndoneByAddRow.holds Try.pinned (OpenSpec.ofChange fnSpanSubExactDifferenceUndoneByAddWrong)

/-- 'zzlaws_internal_algo_b1.FnSpanSubInStepsEqualsSubOfSum': WHATEVER THE INPUT: true; the input reads as it did. -/
def fnSpanSubInStepsEqualsSubOfSumSpec : ChangeSpec := { name := "fnSpanSubInStepsEqualsSubOfSum", fn := fun _ => fun
  | [d1, d2, d3, d4, d5, d6, d7] => { results := [.lit (.bool true)], args := [d1, d2, d3, d4, d5, d6, d7] }
  | _ => none }
def fnSpanSubInStepsEqualsSubOfSumRow : OpenClaim := { program := "qxb6617171a", sum := "4e9cbd1fdb835143f41fc62017e5df94df5930f6823a4416db13689b5db3089f", func := "example.com/sluice/sluice/zzlaws_internal_algo_b1.FnSpanSubInStepsEqualsSubOfSum", spec := "fnSpanSubInStepsEqualsSubOfSum", apart := false }
def FnSpanSubInStepsEqualsSubOfSumSaid : Prop := fnSpanSubInStepsEqualsSubOfSumRow.holds Try.pinned (OpenSpec.ofChange fnSpanSubInStepsEqualsSubOfSumSpec)

/-- ITS FALSE NEIGHBOUR: 'it returns false'. Refute it at one input. -/
def fnSpanSubInStepsEqualsSubOfSumWrong : ChangeSpec := { name := "fnSpanSubInStepsEqualsSubOfSum", fn := fun _ => fun
  | [d1, d2, d3, d4, d5, d6, d7] => { results := [.lit (.bool false)], args := [d1, d2, d3, d4, d5, d6, d7] }
  | _ => none }
def FnSpanSubInStepsEqualsSubOfSumWrongFalsely : Prop := fnSpanSubInStepsEqualsSubOfSumRow.holds Try.pinned (OpenSpec.ofChange fnSpanSubInStepsEqualsSubOfSumWrong)

end Rows
end Go.Proofs.Qxb6617171a
