/-
  No cell of these rows narrows 'for every input' (looked for: loops, veiled, ifaces, maps, wideKeys, modest, calm, conditions, laid).
  DERIVED. THE GIVEN ROWS OF THIS SEAT. 2 by the template 'for every input the law returns true; each argument reads behind the call as it read before'; 0 by the template 'total and deterministic' (their statements: Qxb6618541aTotals.lean).
  GIVEN WITH THE SEED: the statements are not yours to turn. If you find one false, say at which input.
  Laid BY PROGRAM, IN A SANDBOX (cutbox-rows.mjs): the forced cells as the released guide's own fill.sh prints them over the translation 524f08ac80a22028… (all of the seat's roots in one cut). By AI agents, Wed Nov 11 2026. No macro, syntax, notation, axiom, sorry.
-/
import Derived.Test.Qxb6618541aChecked
import GoSem.Claim
import GoSem.ClaimJoined
import GoSem.ClaimMapViews
import Derived.JoinedTies
import Derived.KernelRfl
namespace Go.Proofs.Qxb6618541a
/- THE CELL 'sum', in the pinned program and in every row, IS THE sha256 OF THE DUMP (.gsa) THAT Qxb6618541aProg.lean LOADS. Nothing in Lean hashes anything: it is a label: what it is worth is what the hold of that sum in a sandbox is worth. -/
noncomputable def Try.pinned : Pinned := { name := "qxb6618541a", sum := "524f08ac80a22028bd78afbf7b036d43f9b81e2c270aa06a77906ace61978146", checked := Try.checked }
namespace Rows
def none {H : Type} : Left H := { results := [], args := [] }

/-- 'zzlaws_decimal_b1.FnWideOfDenotesItsArgumentAndNegationFlipsTheSignAlone': WHATEVER THE INPUT: true; the input reads as it did. -/
def fnWideOfDenotesItsArgumentAndNegationFlipsTheSignAloneSpec : ChangeSpec := { name := "fnWideOfDenotesItsArgumentAndNegationFlipsTheSignAlone", fn := fun _ => fun
  | [d] => { results := [.lit (.bool true)], args := [d] }
  | _ => none }
def fnWideOfDenotesItsArgumentAndNegationFlipsTheSignAloneRow : OpenClaim := { program := "qxb6618541a", sum := "524f08ac80a22028bd78afbf7b036d43f9b81e2c270aa06a77906ace61978146", func := "example.com/spreadtally/spreadtally/zzlaws_decimal_b1.FnWideOfDenotesItsArgumentAndNegationFlipsTheSignAlone", spec := "fnWideOfDenotesItsArgumentAndNegationFlipsTheSignAlone", apart := false }
def FnWideOfDenotesItsArgumentAndNegationFlipsTheSignAloneSaid : Prop := fnWideOfDenotesItsArgumentAndNegationFlipsTheSignAloneRow.holds Try.pinned (OpenSpec.ofChange fnWideOfDenotesItsArgumentAndNegationFlipsTheSignAloneSpec)

/-- ITS FALSE NEIGHBOUR: 'it returns false'. Refute it at one input. -/
def fnWideOfDenotesItsArgumentAndNegationFlipsTheSignAloneWrong : ChangeSpec := { name := "fnWideOfDenotesItsArgumentAndNegationFlipsTheSignAlone", fn := fun _ => fun
  | [d] => { results := [.lit (.bool false)], args := [d] }
  | _ => none }
def FnWideOfDenotesItsArgumentAndNegationFlipsTheSignAloneWrongFalsely : Prop := fnWideOfDenotesItsArgumentAndNegationFlipsTheSignAloneRow.holds Try.pinned (OpenSpec.ofChange fnWideOfDenotesItsArgumentAndNegationFlipsTheSignAloneWrong)

/-- 'zzlaws_decimal_b1.FnWideOfKeepsOrderAndAddsAsTheIntegersDo': WHATEVER THE INPUT: true; the input reads as it did. -/
def fnWideOfKeepsOrderAndAddsAsTheIntegersDoSpec : ChangeSpec := { name := "fnWideOfKeepsOrderAndAddsAsTheIntegersDo", fn := fun _ => fun
  | [d1, d2] => { results := [.lit (.bool true)], args := [d1, d2] }
  | _ => none }
def fnWideOfKeepsOrderAndAddsAsTheIntegersDoRow : OpenClaim := { program := "qxb6618541a", sum := "524f08ac80a22028bd78afbf7b036d43f9b81e2c270aa06a77906ace61978146", func := "example.com/spreadtally/spreadtally/zzlaws_decimal_b1.FnWideOfKeepsOrderAndAddsAsTheIntegersDo", spec := "fnWideOfKeepsOrderAndAddsAsTheIntegersDo", apart := false }
def FnWideOfKeepsOrderAndAddsAsTheIntegersDoSaid : Prop := fnWideOfKeepsOrderAndAddsAsTheIntegersDoRow.holds Try.pinned (OpenSpec.ofChange fnWideOfKeepsOrderAndAddsAsTheIntegersDoSpec)

/-- ITS FALSE NEIGHBOUR: 'it returns false'. Refute it at one input. -/
def fnWideOfKeepsOrderAndAddsAsTheIntegersDoWrong : ChangeSpec := { name := "fnWideOfKeepsOrderAndAddsAsTheIntegersDo", fn := fun _ => fun
  | [d1, d2] => { results := [.lit (.bool false)], args := [d1, d2] }
  | _ => none }
def FnWideOfKeepsOrderAndAddsAsTheIntegersDoWrongFalsely : Prop := fnWideOfKeepsOrderAndAddsAsTheIntegersDoRow.holds Try.pinned (OpenSpec.ofChange fnWideOfKeepsOrderAndAddsAsTheIntegersDoWrong)

end Rows
end Go.Proofs.Qxb6618541a
