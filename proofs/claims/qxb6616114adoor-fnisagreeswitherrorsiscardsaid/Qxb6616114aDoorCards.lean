/-
  DERIVED. GIVEN WITH THE SEED: THE CARDS: each row of Qxb6616114aDoorRows.lean that lists a variable, with what it lists TIED to the program's text (the seventh form; the later family's looks); each row that meets fmt, with fmt's text TOLD by the authors' own Lean function (tested against real Go, not proved from fmt's source: count such statements apart). THE CARD IS WHAT COUNTS. Prove the row's statement (the work); the ties are given (Qxb6616114aDoorTie.lean); close each card by the builder's one call (the guide's Derived/Test/ToyasCard.lean, 'card_holds'). Laid BY PROGRAM, IN A SANDBOX (cutbox-door.mjs). By AI agents, Wed Nov 11 2026. No macro, syntax, notation, axiom, sorry.
-/
import Derived.Test.Qxb6616114aDoorRows
import GoSem.ClaimSeven
namespace Go.Proofs.Qxb6616114aDoor
namespace Rows

/-- THE TIED CARD OF 'zzlaws_client_b1.FnIsAgreesWithErrorsIs'. -/
def fnIsAgreesWithErrorsIsCard : Claim7 := { stood := { row := fnIsAgreesWithErrorsIsRow, standIns := [], harness := (true, "b07e8dcafaa7ad5900cb6a7dd027c495b7a550b531c883b03dde7de6c239d362"), looks := true }, kinds := [], alts := [], laidByText := true, laidKinds := [.sentinel], laidTests := true, laidLooks := .later }
def FnIsAgreesWithErrorsIsCardSaid : Prop := Claim7.holds Tryd.pinned (.plain (OpenSpec.ofChange fnIsAgreesWithErrorsIsSpec)) fnIsAgreesWithErrorsIsCard

/-- THE TIED CARD OF 'zzlaws_client_b1.FnIsIgnoresCurrent'. -/
def fnIsIgnoresCurrentCard : Claim7 := { stood := { row := fnIsIgnoresCurrentRow, standIns := [], harness := (true, "b07e8dcafaa7ad5900cb6a7dd027c495b7a550b531c883b03dde7de6c239d362"), looks := true }, kinds := [], alts := [], laidByText := true, laidKinds := [.sentinel], laidTests := true, laidLooks := .later }
def FnIsIgnoresCurrentCardSaid : Prop := Claim7.holds Tryd.pinned (.plain (OpenSpec.ofChange fnIsIgnoresCurrentSpec)) fnIsIgnoresCurrentCard
end Rows
end Go.Proofs.Qxb6616114aDoor
