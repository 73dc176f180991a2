/-
  DERIVED. GIVEN WITH THE SEED: THE CARDS: each row of YbulkcjmyDoorRows.lean that lists a variable, with what it lists TIED to the program's text (the seventh form; the later family's looks); each row that meets fmt, with fmt's text TOLD by the authors' own Lean function (tested against real Go, not proved from fmt's source: count such statements apart). THE CARD IS WHAT COUNTS. Prove the row's statement (the work); the ties are given (YbulkcjmyDoorTie.lean); close each card by the builder's one call (the guide's Derived/Test/ToyasCard.lean, 'card_holds'). Laid BY PROGRAM, IN A SANDBOX (cutbox-door.mjs). By AI agents, Wed Nov 11 2026. No macro, syntax, notation, axiom, sorry.
-/
import Derived.Test.YbulkcjmyDoorRows
import GoSem.ClaimSeven
namespace Go.Proofs.YbulkcjmyDoor
namespace Rows

/-- THE TIED CARD OF 'seriate.LawS4275BScripted'. -/
def lawS4275BScriptedCard : Claim7 := { stood := { row := lawS4275BScriptedRow, standIns := [], harness := (true, "9f1bb29623b3e058fce48702476b9c36439fa8de1423a2b83c6e0637c33528bc"), looks := true }, kinds := [], alts := [], laidByText := true, laidKinds := [.sentinel], laidTests := true, laidLooks := .later }
def LawS4275BScriptedCardSaid : Prop := Claim7.holds Ybad.pinned (.plain (OpenSpec.ofChange lawS4275BScriptedSpec)) lawS4275BScriptedCard

/-- THE TIED CARD OF 'seriate.LawS4275BWhole'. -/
def lawS4275BWholeCard : Claim7 := { stood := { row := lawS4275BWholeRow, standIns := [], harness := (true, "9f1bb29623b3e058fce48702476b9c36439fa8de1423a2b83c6e0637c33528bc"), looks := true }, kinds := [], alts := [], laidByText := true, laidKinds := [.sentinel, .sentinel], laidTests := true, laidLooks := .later }
def LawS4275BWholeCardSaid : Prop := Claim7.holds Ybad.pinned (.plain (OpenSpec.ofChange lawS4275BWholeSpec)) lawS4275BWholeCard
end Rows
end Go.Proofs.YbulkcjmyDoor
