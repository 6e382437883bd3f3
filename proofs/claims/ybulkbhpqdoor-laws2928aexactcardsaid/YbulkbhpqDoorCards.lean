/-
  DERIVED. GIVEN WITH THE SEED: THE CARDS: each row of YbulkbhpqDoorRows.lean that lists a variable, with what it lists TIED to the program's text (the seventh form; the later family's looks); each row that meets fmt, with fmt's text TOLD by the authors' own Lean function (tested against real Go, not proved from fmt's source: count such statements apart). THE CARD IS WHAT COUNTS. Prove the row's statement (the work); the ties are given (YbulkbhpqDoorTie.lean); close each card by the builder's one call (the guide's Derived/Test/ToyasCard.lean, 'card_holds'). Laid BY PROGRAM, IN A SANDBOX (cutbox-door.mjs). By AI agents, Wed Nov 11 2026. No macro, syntax, notation, axiom, sorry.
-/
import Derived.Test.YbulkbhpqDoorRows
import GoSem.ClaimSeven
namespace Go.Proofs.YbulkbhpqDoor
namespace Rows

/-- THE TIED CARD OF 'serialis.LawS2928AExact'. -/
def lawS2928AExactCard : Claim7 := { stood := { row := lawS2928AExactRow, standIns := [], harness := (true, "3911606f351e37e51ac07398bd50b17ca39ca8011d8c5231b99f3ae18703d619"), looks := false }, kinds := [], alts := [], laidByText := true, laidKinds := [.data], laidTests := true, laidLooks := .later }
def LawS2928AExactCardSaid : Prop := Claim7.holds Ybad.pinned (.plain (OpenSpec.ofChange lawS2928AExactSpec)) lawS2928AExactCard
end Rows
end Go.Proofs.YbulkbhpqDoor
