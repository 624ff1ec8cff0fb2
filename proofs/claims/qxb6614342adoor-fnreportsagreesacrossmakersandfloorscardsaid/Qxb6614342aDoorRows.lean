/-
  NARROWER THAN 'FOR EVERY INPUT', by the rows' own cells (each row's printed sentence says how): FnReportsFollowsLastDetectAmong: laid · FnReportsAgreesAcrossMakersAndFloors: laid.
  DERIVED. THE GIVEN ROWS OF THIS SEAT. 2 by the template 'for every input the law returns true; each argument reads behind the call as it read before'; 0 by the template 'total and deterministic' (their statements: Qxb6614342aDoorTotals.lean).
  GIVEN WITH THE SEED: the statements are not yours to turn. If you find one false, say at which input.
  Laid BY PROGRAM, IN A SANDBOX (cutbox-rows.mjs): the forced cells as the released guide's own fill.sh prints them over the translation e23c8b966a3ea1bf… (all of the seat's roots in one cut). By AI agents, Wed Nov 11 2026. No macro, syntax, notation, axiom, sorry.
-/
import Derived.Test.Qxb6614342aDoorChecked
import GoSem.Claim
import GoSem.ClaimJoined
import GoSem.ClaimMapViews
import Derived.JoinedTies
import Derived.KernelRfl
namespace Go.Proofs.Qxb6614342aDoor
/- THE CELL 'sum', in the pinned program and in every row, IS THE sha256 OF THE DUMP (.gsa) THAT Qxb6614342aDoorProg.lean LOADS. Nothing in Lean hashes anything: it is a label: what it is worth is what the hold of that sum in a sandbox is worth. -/
noncomputable def Tryd.pinned : Pinned := { name := "qxb6614342adoor", sum := "e23c8b966a3ea1bf768c53f4a63b5d3691cfc97455e092c6223ab62276424421", checked := Tryd.checked }
namespace Rows
def none {H : Type} : Left H := { results := [], args := [] }

/- WHAT THE LISTED PACKAGE-LEVEL VARIABLES READ AS WHEN THE CALL BEGINS. Each datum BY PROGRAM (the guide's laid-datum.mjs) off the statement by which the dump's own 'gosem.cut.vars' lays the variable. In a bare row this is a premise. The card (Qxb6614342aDoorCards.lean) ties it to the program's text. -/
def laid_example_com_lockwright_lockwright_internal_lock_finalStates {H : Type} : DataW H := .slice [.lit (.int .u8 3), .lit (.int .u8 4), .lit (.int .u8 5)] []
def laid_example_com_lockwright_lockwright_internal_lock_causeNames {H : Type} : DataW H := .slice [.lit (.string []), .lit (.string [114, 117, 108, 101]), .lit (.string [119, 111, 117, 110, 100]), .lit (.string [110, 111, 100, 101, 45, 114, 101, 115, 116, 97, 114, 116])] []

/-- 'zzlaws_internal_lock_b1.FnReportsFollowsLastDetectAmong': WHATEVER THE INPUT: true; the input reads as it did. -/
def fnReportsFollowsLastDetectAmongSpec : ChangeSpec := { name := "fnReportsFollowsLastDetectAmong", vars := ["example.com/lockwright/lockwright/internal/lock.finalStates", "example.com/lockwright/lockwright/internal/lock.causeNames"], fn := fun _ => fun
  | [d1, d2, d3, d4, d5, g1, g2] => { results := [.lit (.bool true)], args := [d1, d2, d3, d4, d5], vars := [g1, g2] }
  | _ => none }
def fnReportsFollowsLastDetectAmongRow : OpenClaim := { program := "qxb6614342adoor", sum := "e23c8b966a3ea1bf768c53f4a63b5d3691cfc97455e092c6223ab62276424421", func := "example.com/lockwright/lockwright/zzlaws_internal_lock_b1.FnReportsFollowsLastDetectAmong", spec := "fnReportsFollowsLastDetectAmong", named := ["example.com/lockwright/lockwright/internal/lock.finalStates", "example.com/lockwright/lockwright/internal/lock.causeNames"], plainKeys := false, apart := false, laid := [("example.com/lockwright/lockwright/internal/lock.finalStates", laid_example_com_lockwright_lockwright_internal_lock_finalStates), ("example.com/lockwright/lockwright/internal/lock.causeNames", laid_example_com_lockwright_lockwright_internal_lock_causeNames)] }
def FnReportsFollowsLastDetectAmongSaid : Prop := fnReportsFollowsLastDetectAmongRow.holds Tryd.pinned (OpenSpec.ofChange fnReportsFollowsLastDetectAmongSpec)

/-- ITS FALSE NEIGHBOUR: 'it returns false'. Refute it at one input. -/
def fnReportsFollowsLastDetectAmongWrong : ChangeSpec := { name := "fnReportsFollowsLastDetectAmong", vars := ["example.com/lockwright/lockwright/internal/lock.finalStates", "example.com/lockwright/lockwright/internal/lock.causeNames"], fn := fun _ => fun
  | [d1, d2, d3, d4, d5, g1, g2] => { results := [.lit (.bool false)], args := [d1, d2, d3, d4, d5], vars := [g1, g2] }
  | _ => none }
def FnReportsFollowsLastDetectAmongWrongFalsely : Prop := fnReportsFollowsLastDetectAmongRow.holds Tryd.pinned (OpenSpec.ofChange fnReportsFollowsLastDetectAmongWrong)

/-- 'zzlaws_internal_lock_b1.FnReportsAgreesAcrossMakersAndFloors': WHATEVER THE INPUT: true; the input reads as it did. -/
def fnReportsAgreesAcrossMakersAndFloorsSpec : ChangeSpec := { name := "fnReportsAgreesAcrossMakersAndFloors", vars := ["example.com/lockwright/lockwright/internal/lock.finalStates", "example.com/lockwright/lockwright/internal/lock.causeNames"], fn := fun _ => fun
  | [d1, d2, d3, d4, d5, g1, g2] => { results := [.lit (.bool true)], args := [d1, d2, d3, d4, d5], vars := [g1, g2] }
  | _ => none }
def fnReportsAgreesAcrossMakersAndFloorsRow : OpenClaim := { program := "qxb6614342adoor", sum := "e23c8b966a3ea1bf768c53f4a63b5d3691cfc97455e092c6223ab62276424421", func := "example.com/lockwright/lockwright/zzlaws_internal_lock_b1.FnReportsAgreesAcrossMakersAndFloors", spec := "fnReportsAgreesAcrossMakersAndFloors", named := ["example.com/lockwright/lockwright/internal/lock.finalStates", "example.com/lockwright/lockwright/internal/lock.causeNames"], plainKeys := false, apart := false, laid := [("example.com/lockwright/lockwright/internal/lock.finalStates", laid_example_com_lockwright_lockwright_internal_lock_finalStates), ("example.com/lockwright/lockwright/internal/lock.causeNames", laid_example_com_lockwright_lockwright_internal_lock_causeNames)] }
def FnReportsAgreesAcrossMakersAndFloorsSaid : Prop := fnReportsAgreesAcrossMakersAndFloorsRow.holds Tryd.pinned (OpenSpec.ofChange fnReportsAgreesAcrossMakersAndFloorsSpec)

/-- ITS FALSE NEIGHBOUR: 'it returns false'. Refute it at one input. -/
def fnReportsAgreesAcrossMakersAndFloorsWrong : ChangeSpec := { name := "fnReportsAgreesAcrossMakersAndFloors", vars := ["example.com/lockwright/lockwright/internal/lock.finalStates", "example.com/lockwright/lockwright/internal/lock.causeNames"], fn := fun _ => fun
  | [d1, d2, d3, d4, d5, g1, g2] => { results := [.lit (.bool false)], args := [d1, d2, d3, d4, d5], vars := [g1, g2] }
  | _ => none }
def FnReportsAgreesAcrossMakersAndFloorsWrongFalsely : Prop := fnReportsAgreesAcrossMakersAndFloorsRow.holds Tryd.pinned (OpenSpec.ofChange fnReportsAgreesAcrossMakersAndFloorsWrong)

end Rows
end Go.Proofs.Qxb6614342aDoor
