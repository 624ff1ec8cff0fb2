/-
  DERIVED. GIVEN WITH THE SEED: THE CARDS: each row of Qxb6614342aDoorRows.lean that lists a variable, with what it lists TIED to the program's text (the seventh form; the later family's looks); each row that meets fmt, with fmt's text TOLD by the authors' own Lean function (tested against real Go, not proved from fmt's source: count such statements apart). THE CARD IS WHAT COUNTS. Prove the row's statement (the work); the ties are given (Qxb6614342aDoorTie.lean); close each card by the builder's one call (the guide's Derived/Test/ToyasCard.lean, 'card_holds'). Laid BY PROGRAM, IN A SANDBOX (cutbox-door.mjs). By AI agents, Wed Nov 11 2026. No macro, syntax, notation, axiom, sorry.
-/
import Derived.Test.Qxb6614342aDoorRows
import GoSem.ClaimSeven
namespace Go.Proofs.Qxb6614342aDoor
namespace Rows

/-- THE TIED CARD OF 'zzlaws_internal_lock_b1.FnReportsFollowsLastDetectAmong'. -/
def fnReportsFollowsLastDetectAmongCard : Claim7 := { stood := { row := fnReportsFollowsLastDetectAmongRow, standIns := [], harness := (true, "9d4737d0c665bb2e17a45488105ed16f3a0314d6d0baca941c5bef932cd38a4b"), looks := false }, kinds := [], alts := [], laidByText := true, laidKinds := [.widerDeep, .widerDeep], laidTests := true, laidLooks := .later }
def FnReportsFollowsLastDetectAmongCardSaid : Prop := Claim7.holds Tryd.pinned (.plain (OpenSpec.ofChange fnReportsFollowsLastDetectAmongSpec)) fnReportsFollowsLastDetectAmongCard

/-- THE TIED CARD OF 'zzlaws_internal_lock_b1.FnReportsAgreesAcrossMakersAndFloors'. -/
def fnReportsAgreesAcrossMakersAndFloorsCard : Claim7 := { stood := { row := fnReportsAgreesAcrossMakersAndFloorsRow, standIns := [], harness := (true, "9d4737d0c665bb2e17a45488105ed16f3a0314d6d0baca941c5bef932cd38a4b"), looks := false }, kinds := [], alts := [], laidByText := true, laidKinds := [.widerDeep, .widerDeep], laidTests := true, laidLooks := .later }
def FnReportsAgreesAcrossMakersAndFloorsCardSaid : Prop := Claim7.holds Tryd.pinned (.plain (OpenSpec.ofChange fnReportsAgreesAcrossMakersAndFloorsSpec)) fnReportsAgreesAcrossMakersAndFloorsCard
end Rows
end Go.Proofs.Qxb6614342aDoor
