/-
  No cell of these rows narrows 'for every input' (looked for: loops, veiled, ifaces, maps, wideKeys, modest, calm, conditions, laid).
  DERIVED. THE GIVEN ROWS OF THIS SEAT. 3 by the template 'for every input the law returns true; each argument reads behind the call as it read before'; 0 by the template 'total and deterministic' (their statements: Qxb6614265aTotals.lean).
  GIVEN WITH THE SEED: the statements are not yours to turn. If you find one false, say at which input.
  Laid BY PROGRAM, IN A SANDBOX (cutbox-rows.mjs): the forced cells as the released guide's own fill.sh prints them over the translation f20dcda11c538989… (all of the seat's roots in one cut). By AI agents, Wed Nov 11 2026. No macro, syntax, notation, axiom, sorry.
-/
import Derived.Test.Qxb6614265aChecked
import GoSem.Claim
import GoSem.ClaimJoined
import GoSem.ClaimMapViews
import Derived.JoinedTies
import Derived.KernelRfl
namespace Go.Proofs.Qxb6614265a
/- THE CELL 'sum', in the pinned program and in every row, IS THE sha256 OF THE DUMP (.gsa) THAT Qxb6614265aProg.lean LOADS. Nothing in Lean hashes anything: it is a label: what it is worth is what the hold of that sum in a sandbox is worth. -/
noncomputable def Try.pinned : Pinned := { name := "qxb6614265a", sum := "f20dcda11c53898955ed60cd551fe66976af8224f4267ebda4b79a34cedb2cd2", checked := Try.checked }
namespace Rows
def none {H : Type} : Left H := { results := [], args := [] }

/-- 'zzlaws_input_b1.FnGB18030QuadNumbersAndSteps': WHATEVER THE INPUT: true; the input reads as it did. -/
def fnGB18030QuadNumbersAndStepsSpec : ChangeSpec := { name := "fnGB18030QuadNumbersAndSteps", fn := fun _ => fun
  | [d] => { results := [.lit (.bool true)], args := [d] }
  | _ => none }
def fnGB18030QuadNumbersAndStepsRow : OpenClaim := { program := "qxb6614265a", sum := "f20dcda11c53898955ed60cd551fe66976af8224f4267ebda4b79a34cedb2cd2", func := "example.com/grantbook/grantbook/zzlaws_input_b1.FnGB18030QuadNumbersAndSteps", spec := "fnGB18030QuadNumbersAndSteps", apart := false }
def FnGB18030QuadNumbersAndStepsSaid : Prop := fnGB18030QuadNumbersAndStepsRow.holds Try.pinned (OpenSpec.ofChange fnGB18030QuadNumbersAndStepsSpec)

/-- ITS FALSE NEIGHBOUR: 'it returns false'. Refute it at one input. -/
def fnGB18030QuadNumbersAndStepsWrong : ChangeSpec := { name := "fnGB18030QuadNumbersAndSteps", fn := fun _ => fun
  | [d] => { results := [.lit (.bool false)], args := [d] }
  | _ => none }
def FnGB18030QuadNumbersAndStepsWrongFalsely : Prop := fnGB18030QuadNumbersAndStepsRow.holds Try.pinned (OpenSpec.ofChange fnGB18030QuadNumbersAndStepsWrong)

/-- 'zzlaws_input_b1.FnGB18030QuadOrderFollowsNumber': WHATEVER THE INPUT: true; the input reads as it did. -/
def fnGB18030QuadOrderFollowsNumberSpec : ChangeSpec := { name := "fnGB18030QuadOrderFollowsNumber", fn := fun _ => fun
  | [d1, d2] => { results := [.lit (.bool true)], args := [d1, d2] }
  | _ => none }
def fnGB18030QuadOrderFollowsNumberRow : OpenClaim := { program := "qxb6614265a", sum := "f20dcda11c53898955ed60cd551fe66976af8224f4267ebda4b79a34cedb2cd2", func := "example.com/grantbook/grantbook/zzlaws_input_b1.FnGB18030QuadOrderFollowsNumber", spec := "fnGB18030QuadOrderFollowsNumber", apart := false }
def FnGB18030QuadOrderFollowsNumberSaid : Prop := fnGB18030QuadOrderFollowsNumberRow.holds Try.pinned (OpenSpec.ofChange fnGB18030QuadOrderFollowsNumberSpec)

/-- ITS FALSE NEIGHBOUR: 'it returns false'. Refute it at one input. -/
def fnGB18030QuadOrderFollowsNumberWrong : ChangeSpec := { name := "fnGB18030QuadOrderFollowsNumber", fn := fun _ => fun
  | [d1, d2] => { results := [.lit (.bool false)], args := [d1, d2] }
  | _ => none }
def FnGB18030QuadOrderFollowsNumberWrongFalsely : Prop := fnGB18030QuadOrderFollowsNumberRow.holds Try.pinned (OpenSpec.ofChange fnGB18030QuadOrderFollowsNumberWrong)

/-- 'zzlaws_input_b1.FnYAMLPrintableIsScalarButNoControl': WHATEVER THE INPUT: true; the input reads as it did. -/
def fnYAMLPrintableIsScalarButNoControlSpec : ChangeSpec := { name := "fnYAMLPrintableIsScalarButNoControl", fn := fun _ => fun
  | [d] => { results := [.lit (.bool true)], args := [d] }
  | _ => none }
def fnYAMLPrintableIsScalarButNoControlRow : OpenClaim := { program := "qxb6614265a", sum := "f20dcda11c53898955ed60cd551fe66976af8224f4267ebda4b79a34cedb2cd2", func := "example.com/grantbook/grantbook/zzlaws_input_b1.FnYAMLPrintableIsScalarButNoControl", spec := "fnYAMLPrintableIsScalarButNoControl", apart := false }
def FnYAMLPrintableIsScalarButNoControlSaid : Prop := fnYAMLPrintableIsScalarButNoControlRow.holds Try.pinned (OpenSpec.ofChange fnYAMLPrintableIsScalarButNoControlSpec)

/-- ITS FALSE NEIGHBOUR: 'it returns false'. Refute it at one input. -/
def fnYAMLPrintableIsScalarButNoControlWrong : ChangeSpec := { name := "fnYAMLPrintableIsScalarButNoControl", fn := fun _ => fun
  | [d] => { results := [.lit (.bool false)], args := [d] }
  | _ => none }
def FnYAMLPrintableIsScalarButNoControlWrongFalsely : Prop := fnYAMLPrintableIsScalarButNoControlRow.holds Try.pinned (OpenSpec.ofChange fnYAMLPrintableIsScalarButNoControlWrong)

end Rows
end Go.Proofs.Qxb6614265a
