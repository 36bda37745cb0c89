/-
  DERIVED. GIVEN WITH THE SEED: THE CARDS: each row of YbulkavwiDoorRows.lean that lists a variable, with what it lists TIED to the program's text (the seventh form; the later family's looks); each row that meets fmt, with fmt's text TOLD by the authors' own Lean function (tested against real Go, not proved from fmt's source: count such statements apart). THE CARD IS WHAT COUNTS. Prove the row's statement (the work); the ties are given (YbulkavwiDoorTie.lean); close each card by the builder's one call (the guide's Derived/Test/ToyasCard.lean, 'card_holds'). Laid BY PROGRAM, IN A SANDBOX (cutbox-door.mjs). By AI agents, Wed Nov 11 2026. No macro, syntax, notation, axiom, sorry.
-/
import Derived.Test.YbulkavwiDoorRows
import GoSem.ClaimSeven
namespace Go.Proofs.YbulkavwiDoor
namespace Rows

/-- THE TIED CARD OF 'keelson.LawS2361AAll'. -/
def lawS2361AAllCard : Claim7 := { stood := { row := lawS2361AAllRow, standIns := [], harness := (true, "df40b91b16b96c8f3a09c5f06b56620039f53bee83b69ba702ce021f812ab415"), looks := false }, kinds := [], alts := [], laidByText := true, laidKinds := [.data, .data, .data], laidTests := true, laidLooks := .later }
def LawS2361AAllCardSaid : Prop := Claim7.holds Ybad.pinned (.plain (OpenSpec.ofChange lawS2361AAllSpec)) lawS2361AAllCard

/-- THE TIED CARD OF 'keelson.LawS2361AOwn'. -/
def lawS2361AOwnCard : Claim7 := { stood := { row := lawS2361AOwnRow, standIns := [], harness := (true, "df40b91b16b96c8f3a09c5f06b56620039f53bee83b69ba702ce021f812ab415"), looks := false }, kinds := [], alts := [], laidByText := true, laidKinds := [.data, .data, .data], laidTests := true, laidLooks := .later }
def LawS2361AOwnCardSaid : Prop := Claim7.holds Ybad.pinned (.plain (OpenSpec.ofChange lawS2361AOwnSpec)) lawS2361AOwnCard

/-- THE TIED CARD OF 'keelson.LawS2361ATuple'. -/
def lawS2361ATupleCard : Claim7 := { stood := { row := lawS2361ATupleRow, standIns := [], harness := (true, "df40b91b16b96c8f3a09c5f06b56620039f53bee83b69ba702ce021f812ab415"), looks := false }, kinds := [], alts := [], laidByText := true, laidKinds := [.data, .data, .data], laidTests := true, laidLooks := .later }
def LawS2361ATupleCardSaid : Prop := Claim7.holds Ybad.pinned (.plain (OpenSpec.ofChange lawS2361ATupleSpec)) lawS2361ATupleCard
end Rows
end Go.Proofs.YbulkavwiDoor
