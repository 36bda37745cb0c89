/-
  DERIVED. GIVEN WITH THE SEED: THE CARDS: each row of YbulkavueDoorRows.lean that lists a variable, with what it lists TIED to the program's text (the seventh form; the later family's looks); each row that meets fmt, with fmt's text TOLD by the authors' own Lean function (tested against real Go, not proved from fmt's source: count such statements apart). THE CARD IS WHAT COUNTS. Prove the row's statement (the work); the ties are given (YbulkavueDoorTie.lean); close each card by the builder's one call (the guide's Derived/Test/ToyasCard.lean, 'card_holds'). Laid BY PROGRAM, IN A SANDBOX (cutbox-door.mjs). By AI agents, Wed Nov 11 2026. No macro, syntax, notation, axiom, sorry.
-/
import Derived.Test.YbulkavueDoorRows
import GoSem.ClaimSeven
namespace Go.Proofs.YbulkavueDoor
namespace Rows

/-- THE TIED CARD OF 'schedule.LawS2357BNth'. -/
def lawS2357BNthCard : Claim7 := { stood := { row := lawS2357BNthRow, standIns := [], harness := (true, "8ced6c9a1350ca88b7c4b0894199312b3ce2350e00dd7e03702cad630d09b226"), looks := true }, kinds := [], alts := [], laidByText := true, laidKinds := [.data], laidTests := true, laidLooks := .later }
def LawS2357BNthCardSaid : Prop := Claim7.holds Ybad.pinned (.plain (OpenSpec.ofChange lawS2357BNthSpec)) lawS2357BNthCard

/-- THE TIED CARD OF 'schedule.LawS2357BBefore'. -/
def lawS2357BBeforeCard : Claim7 := { stood := { row := lawS2357BBeforeRow, standIns := [], harness := (true, "8ced6c9a1350ca88b7c4b0894199312b3ce2350e00dd7e03702cad630d09b226"), looks := true }, kinds := [], alts := [], laidByText := true, laidKinds := [.data], laidTests := true, laidLooks := .later }
def LawS2357BBeforeCardSaid : Prop := Claim7.holds Ybad.pinned (.plain (OpenSpec.ofChange lawS2357BBeforeSpec)) lawS2357BBeforeCard

/-- THE TIED CARD OF 'store.LawS2357CModel'. -/
def lawS2357CModelCard : Claim7 := { stood := { row := lawS2357CModelRow, standIns := [], harness := (true, "8ced6c9a1350ca88b7c4b0894199312b3ce2350e00dd7e03702cad630d09b226"), looks := true }, kinds := [], alts := [], laidByText := true, laidKinds := [.sentinel], laidTests := true, laidLooks := .later }
def LawS2357CModelCardSaid : Prop := Claim7.holds Ybad.pinned (.plain (OpenSpec.ofChange lawS2357CModelSpec)) lawS2357CModelCard
end Rows
end Go.Proofs.YbulkavueDoor
