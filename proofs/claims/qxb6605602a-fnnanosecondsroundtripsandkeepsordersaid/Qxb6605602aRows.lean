/-
  No cell of these rows narrows 'for every input' (looked for: loops, veiled, ifaces, maps, wideKeys, modest, calm, conditions, laid).
  DERIVED. THE GIVEN ROWS OF THIS SEAT. 2 by the template 'for every input the law returns true; each argument reads behind the call as it read before'; 0 by the template 'total and deterministic' (their statements: Qxb6605602aTotals.lean).
  GIVEN WITH THE SEED: the statements are not yours to turn. If you find one false, say at which input.
  Laid BY PROGRAM, IN A SANDBOX (cutbox-rows.mjs): the forced cells as the released guide's own fill.sh prints them over the translation cda242bbe220d140… (all of the seat's roots in one cut). By AI agents, Wed Nov 11 2026. No macro, syntax, notation, axiom, sorry.
-/
import Derived.Test.Qxb6605602aChecked
import GoSem.Claim
import GoSem.ClaimJoined
import GoSem.ClaimMapViews
import Derived.JoinedTies
import Derived.KernelRfl
namespace Go.Proofs.Qxb6605602a
/- THE CELL 'sum', in the pinned program and in every row, IS THE sha256 OF THE DUMP (.gsa) THAT Qxb6605602aProg.lean LOADS. Nothing in Lean hashes anything: it is a label: what it is worth is what the hold of that sum in a sandbox is worth. -/
noncomputable def Try.pinned : Pinned := { name := "qxb6605602a", sum := "cda242bbe220d14016a67603f2c1b4e4a31843ddb15e0828a9a7aec5b6c39ef0", checked := Try.checked }
namespace Rows
def none {H : Type} : Left H := { results := [], args := [] }

/-- 'zzlaws_internal_sidebyside_b1.FnNanosecondsMatchesSplitModel': WHATEVER THE INPUT: true; the input reads as it did. -/
def fnNanosecondsMatchesSplitModelSpec : ChangeSpec := { name := "fnNanosecondsMatchesSplitModel", fn := fun _ => fun
  | [d] => { results := [.lit (.bool true)], args := [d] }
  | _ => none }
def fnNanosecondsMatchesSplitModelRow : OpenClaim := { program := "qxb6605602a", sum := "cda242bbe220d14016a67603f2c1b4e4a31843ddb15e0828a9a7aec5b6c39ef0", func := "example.com/carriage/carriage/zzlaws_internal_sidebyside_b1.FnNanosecondsMatchesSplitModel", spec := "fnNanosecondsMatchesSplitModel", apart := false }
def FnNanosecondsMatchesSplitModelSaid : Prop := fnNanosecondsMatchesSplitModelRow.holds Try.pinned (OpenSpec.ofChange fnNanosecondsMatchesSplitModelSpec)

/-- ITS FALSE NEIGHBOUR: 'it returns false'. Refute it at one input. -/
def fnNanosecondsMatchesSplitModelWrong : ChangeSpec := { name := "fnNanosecondsMatchesSplitModel", fn := fun _ => fun
  | [d] => { results := [.lit (.bool false)], args := [d] }
  | _ => none }
def FnNanosecondsMatchesSplitModelWrongFalsely : Prop := fnNanosecondsMatchesSplitModelRow.holds Try.pinned (OpenSpec.ofChange fnNanosecondsMatchesSplitModelWrong)

/-- 'zzlaws_internal_sidebyside_b1.FnNanosecondsRoundTripsAndKeepsOrder': WHATEVER THE INPUT: true; the input reads as it did. -/
def fnNanosecondsRoundTripsAndKeepsOrderSpec : ChangeSpec := { name := "fnNanosecondsRoundTripsAndKeepsOrder", fn := fun _ => fun
  | [d] => { results := [.lit (.bool true)], args := [d] }
  | _ => none }
def fnNanosecondsRoundTripsAndKeepsOrderRow : OpenClaim := { program := "qxb6605602a", sum := "cda242bbe220d14016a67603f2c1b4e4a31843ddb15e0828a9a7aec5b6c39ef0", func := "example.com/carriage/carriage/zzlaws_internal_sidebyside_b1.FnNanosecondsRoundTripsAndKeepsOrder", spec := "fnNanosecondsRoundTripsAndKeepsOrder", apart := false }
def FnNanosecondsRoundTripsAndKeepsOrderSaid : Prop := fnNanosecondsRoundTripsAndKeepsOrderRow.holds Try.pinned (OpenSpec.ofChange fnNanosecondsRoundTripsAndKeepsOrderSpec)

/-- ITS FALSE NEIGHBOUR: 'it returns false'. Refute it at one input. -/
def fnNanosecondsRoundTripsAndKeepsOrderWrong : ChangeSpec := { name := "fnNanosecondsRoundTripsAndKeepsOrder", fn := fun _ => fun
  | [d] => { results := [.lit (.bool false)], args := [d] }
  | _ => none }
def FnNanosecondsRoundTripsAndKeepsOrderWrongFalsely : Prop := fnNanosecondsRoundTripsAndKeepsOrderRow.holds Try.pinned (OpenSpec.ofChange fnNanosecondsRoundTripsAndKeepsOrderWrong)

end Rows
end Go.Proofs.Qxb6605602a
