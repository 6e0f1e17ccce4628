/-
  DERIVED. GIVEN WITH THE SEED: THE CARDS: each row of YbulkcnnkDoorRows.lean that lists a variable, with what it lists TIED to the program's text (the seventh form; the later family's looks); each row that meets fmt, with fmt's text TOLD by the authors' own Lean function (tested against real Go, not proved from fmt's source: count such statements apart). THE CARD IS WHAT COUNTS. Prove the row's statement (the work); the ties are given (YbulkcnnkDoorTie.lean); close each card by the builder's one call (the guide's Derived/Test/ToyasCard.lean, 'card_holds'). Laid BY PROGRAM, IN A SANDBOX (cutbox-door.mjs). By AI agents, Wed Nov 11 2026. No macro, syntax, notation, axiom, sorry.
-/
import Derived.Test.YbulkcnnkDoorRows
import GoSem.ClaimSeven
namespace Go.Proofs.YbulkcnnkDoor
namespace Rows

/-- THE TIED CARD OF 'msd.LawS4469AExact'. -/
def lawS4469AExactCard : Claim7 := { stood := { row := lawS4469AExactRow, standIns := [], harness := (true, "a4de2ad77cc21165aec8ba0bcdc938ed23c4a70f93acae7a51a0faa3645d7b03"), looks := false }, kinds := [], alts := [], laidByText := true, laidKinds := [.data, .data, .data], laidTests := true, laidLooks := .later }
def LawS4469AExactCardSaid : Prop := Claim7.holds Ybad.pinned (.plain (OpenSpec.ofChange lawS4469AExactSpec)) lawS4469AExactCard
end Rows
end Go.Proofs.YbulkcnnkDoor
