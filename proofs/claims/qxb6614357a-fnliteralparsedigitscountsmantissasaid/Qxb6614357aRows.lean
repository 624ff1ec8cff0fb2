/-
  No cell of these rows narrows 'for every input' (looked for: loops, veiled, ifaces, maps, wideKeys, modest, calm, conditions, laid).
  DERIVED. THE GIVEN ROWS OF THIS SEAT. 1 by the template 'for every input the law returns true; each argument reads behind the call as it read before'; 0 by the template 'total and deterministic' (their statements: Qxb6614357aTotals.lean).
  GIVEN WITH THE SEED: the statements are not yours to turn. If you find one false, say at which input.
  Laid BY PROGRAM, IN A SANDBOX (cutbox-rows.mjs): the forced cells as the released guide's own fill.sh prints them over the translation d95075c33b81c482… (all of the seat's roots in one cut). By AI agents, Wed Nov 11 2026. No macro, syntax, notation, axiom, sorry.
-/
import Derived.Test.Qxb6614357aChecked
import GoSem.Claim
import GoSem.ClaimJoined
import GoSem.ClaimMapViews
import Derived.JoinedTies
import Derived.KernelRfl
namespace Go.Proofs.Qxb6614357a
/- THE CELL 'sum', in the pinned program and in every row, IS THE sha256 OF THE DUMP (.gsa) THAT Qxb6614357aProg.lean LOADS. Nothing in Lean hashes anything: it is a label: what it is worth is what the hold of that sum in a sandbox is worth. -/
noncomputable def Try.pinned : Pinned := { name := "qxb6614357a", sum := "d95075c33b81c48244b0b6669a0c0679ae86009ea383a372b1b621864a2e07fb", checked := Try.checked }
namespace Rows
def none {H : Type} : Left H := { results := [], args := [] }

/-- 'zzlaws_root_b1.FnLiteralParseDigitsCountsMantissa': WHATEVER THE INPUT: true; the input reads as it did. -/
def fnLiteralParseDigitsCountsMantissaSpec : ChangeSpec := { name := "fnLiteralParseDigitsCountsMantissa", fn := fun _ => fun
  | [d] => { results := [.lit (.bool true)], args := [d] }
  | _ => none }
def fnLiteralParseDigitsCountsMantissaRow : OpenClaim := { program := "qxb6614357a", sum := "d95075c33b81c48244b0b6669a0c0679ae86009ea383a372b1b621864a2e07fb", func := "example.com/vlag/vlag/zzlaws_root_b1.FnLiteralParseDigitsCountsMantissa", spec := "fnLiteralParseDigitsCountsMantissa", apart := false }
def FnLiteralParseDigitsCountsMantissaSaid : Prop := fnLiteralParseDigitsCountsMantissaRow.holds Try.pinned (OpenSpec.ofChange fnLiteralParseDigitsCountsMantissaSpec)

/-- ITS FALSE NEIGHBOUR: 'it returns false'. Refute it at one input. -/
def fnLiteralParseDigitsCountsMantissaWrong : ChangeSpec := { name := "fnLiteralParseDigitsCountsMantissa", fn := fun _ => fun
  | [d] => { results := [.lit (.bool false)], args := [d] }
  | _ => none }
def FnLiteralParseDigitsCountsMantissaWrongFalsely : Prop := fnLiteralParseDigitsCountsMantissaRow.holds Try.pinned (OpenSpec.ofChange fnLiteralParseDigitsCountsMantissaWrong)

end Rows
end Go.Proofs.Qxb6614357a
