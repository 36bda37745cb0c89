/-
  DERIVED. GIVEN WITH THE SEED: THE CARDS: each row of YbulkavwwDoorRows.lean that lists a variable, with what it lists TIED to the program's text (the seventh form; the later family's looks); each row that meets fmt, with fmt's text TOLD by the authors' own Lean function (tested against real Go, not proved from fmt's source: count such statements apart). THE CARD IS WHAT COUNTS. Prove the row's statement (the work); the ties are given (YbulkavwwDoorTie.lean); close each card by the builder's one call (the guide's Derived/Test/ToyasCard.lean, 'card_holds'). Laid BY PROGRAM, IN A SANDBOX (cutbox-door.mjs). By AI agents, Wed Nov 11 2026. No macro, syntax, notation, axiom, sorry.
-/
import Derived.Test.YbulkavwwDoorRows
import GoSem.ClaimSeven
namespace Go.Proofs.YbulkavwwDoor
namespace Rows

/-- THE TIED CARD OF 'node.LawS2362CDecide'. -/
def lawS2362CDecideCard : Claim7 := { stood := { row := lawS2362CDecideRow, standIns := [], harness := (true, "8f7e179de5de2af1fa55c14770ddf70c96aca4c79bde00854cfb98224f3a06b4"), looks := false }, kinds := [], alts := [], laidByText := true, laidKinds := [.data], laidTests := true, laidLooks := .later }
def LawS2362CDecideCardSaid : Prop := Claim7.holds Ybad.pinned (.plain (OpenSpec.ofChange lawS2362CDecideSpec)) lawS2362CDecideCard
end Rows
end Go.Proofs.YbulkavwwDoor
