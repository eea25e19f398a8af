/-
  DERIVED. GIVEN WITH THE SEED: THE CARDS: each row of YbulkexphwDoorRows.lean that lists a variable, with what it lists TIED to the program's text (the seventh form; the later family's looks); each row that meets fmt, with fmt's text TOLD by the authors' own Lean function (tested against real Go, not proved from fmt's source: count such statements apart). THE CARD IS WHAT COUNTS. Prove the row's statement (the work); the ties are given (YbulkexphwDoorTie.lean); close each card by the builder's one call (the guide's Derived/Test/ToyasCard.lean, 'card_holds'). Laid BY PROGRAM, IN A SANDBOX (cutbox-door.mjs). By AI agents, Wed Nov 11 2026. No macro, syntax, notation, axiom, sorry.
-/
import Derived.Test.YbulkexphwDoorRows
import GoSem.ClaimSeven
namespace Go.Proofs.YbulkexphwDoor
namespace Rows

/-- THE TIED CARD OF 'lociform.LawS194125AWhole'. -/
def lawS194125AWholeCard : Claim7 := { stood := { row := lawS194125AWholeRow, standIns := [], harness := (true, "ee26e7e5f1c545c083783de454b687a3a73d773a8222151f2f2a1346c24dae20"), looks := false }, kinds := [], alts := [], laidByText := true, laidKinds := [.sentinel], laidTests := true, laidLooks := .later }
def LawS194125AWholeCardSaid : Prop := Claim7.holds Ybad.pinned (.plain (OpenSpec.ofChange lawS194125AWholeSpec)) lawS194125AWholeCard
end Rows
end Go.Proofs.YbulkexphwDoor
