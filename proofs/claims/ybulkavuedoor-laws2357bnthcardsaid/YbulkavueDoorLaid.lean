/-
  From the rows' condition on the library's table to the walks' fact; a start that meets it.
-/
import Derived.Test.YbulkavueDoorRows
import Derived.Test.YbulkavueDoorMake
import Derived.ProofKit
import Derived.LaidMore
import Derived.OpenShut
import Derived.Stop.Joined
import Derived.Lib.LaidTab
namespace Go.Proofs.YbulkavueDoor
open Go.ChangeShapes Go.WideShapes Go.ChangeAt Go.RowKit

theorem own : ownKnob Ybad.prog.godebug = none := by kernel_rfl
theorem laidOut : laidOutB Ybad.prog = true := by kernel_rfl
theorem gTab : Ybad.prog.globalNamed (Rows.lawS2357BNthRow.named.headD "") = some 3 := by kernel_rfl
theorem tTab : (Ybad.prog.globals[3]?).map (·.type) = some 54 := by kernel_rfl

/-- The door's own heap meets the condition. -/
theorem door_met (os : Os) (args : Array Value) : laidMetH Ybad.prog Rows.lawS2357BNthRow.laid ((World.doorLaid Ybad.prog 400 os).forCall (fun _ _ => 0) ⟨#[], args, []⟩).memory :=
  laidMetH_of_parts3 (fuel := 8) (laidMet_of_run' 8 (by kernel_rfl) (by kernel_rfl)) (by kernel_rfl) (by kernel_rfl)

/-- What the condition gives the walks: the table. -/
theorem tab_of_laid {W : World} (h : laidMetH Ybad.prog Rows.lawS2357BNthRow.laid W) : Tab W := by
  rw [MakeChecks.laidMetH_plain _ _ _ (by kernel_rfl)] at h
  have h2 : laidMet Ybad.prog [(Rows.lawS2357BNthRow.named.headD "", Lib.tabData .u8 (Lib.deBruijn64tab.map Int.ofNat))] W := h
  have h3 := Lib.tabIs_of_head gTab tTab Ybad.underlying54 Ybad.underlying5 (by kernel_rfl) (by kernel_rfl) h2
  intro j hj
  have h4 := h3.cell gTab j (by rw [List.length_map]; exact hj)
  rw [h4, List.getD_eq_getElem?_getD, List.getD_eq_getElem?_getD, List.getElem?_map]
  cases Lib.deBruijn64tab[j]? with
  | none => rfl
  | some n => rfl

end Go.Proofs.YbulkavueDoor
