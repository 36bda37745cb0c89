/-
  No cell of these rows narrows 'for every input' (looked for: loops, veiled, ifaces, maps, wideKeys, modest, calm, conditions, laid).
  DERIVED. THE GIVEN ROWS OF THIS SEAT. 3 by the template 'for every input the law returns true; each argument reads behind the call as it read before'; 0 by the template 'total and deterministic' (their statements: YbulkavwiTotals.lean).
  GIVEN WITH THE SEED: the statements are not yours to turn. If you find one false, say at which input.
  Laid BY PROGRAM, IN A SANDBOX (cutbox-rows.mjs): the forced cells as the released guide's own fill.sh prints them over the translation 23b18df38b721513… (all of the seat's roots in one cut). By AI agents, Wed Nov 11 2026. No macro, syntax, notation, axiom, sorry.
-/
import Derived.Test.YbulkavwiChecked
import GoSem.Claim
import GoSem.ClaimJoined
import GoSem.ClaimMapViews
import Derived.JoinedTies
import Derived.KernelRfl
namespace Go.Proofs.Ybulkavwi
/- THE CELL 'sum', in the pinned program and in every row, IS THE sha256 OF THE DUMP (.gsa) THAT YbulkavwiProg.lean LOADS. Nothing in Lean hashes anything: it is a label: what it is worth is what the hold of that sum in a sandbox is worth. -/
noncomputable def Yba.pinned : Pinned := { name := "ybulkavwi", sum := "23b18df38b721513760ca8ce7f20e96a922d1a36a93735e66f4ed58a2acadece", checked := Yba.checked }
namespace Rows
def none {H : Type} : Left H := { results := [], args := [] }

/-- 'keelson.LawS2361BAsWritten': WHATEVER THE INPUT: true; the input reads as it did. -/
def lawS2361BAsWrittenSpec : ChangeSpec := { name := "lawS2361BAsWritten", fn := fun _ => fun
  | [d1, d2, d3, d4, d5] => { results := [.lit (.bool true)], args := [d1, d2, d3, d4, d5] }
  | _ => none }
def lawS2361BAsWrittenRow : OpenClaim := { program := "ybulkavwi", sum := "23b18df38b721513760ca8ce7f20e96a922d1a36a93735e66f4ed58a2acadece", func := "example.com/keelson/keelson.LawS2361BAsWritten", spec := "lawS2361BAsWritten", apart := false }
def LawS2361BAsWrittenSaid : Prop := lawS2361BAsWrittenRow.holds Yba.pinned (OpenSpec.ofChange lawS2361BAsWrittenSpec)

/-- ITS FALSE NEIGHBOUR: 'it returns false'. Refute it at one input. -/
def lawS2361BAsWrittenWrong : ChangeSpec := { name := "lawS2361BAsWritten", fn := fun _ => fun
  | [d1, d2, d3, d4, d5] => { results := [.lit (.bool false)], args := [d1, d2, d3, d4, d5] }
  | _ => none }
def LawS2361BAsWrittenWrongFalsely : Prop := lawS2361BAsWrittenRow.holds Yba.pinned (OpenSpec.ofChange lawS2361BAsWrittenWrong)

/-- 'keelson.LawS2361CExact': WHATEVER THE INPUT: true; the input reads as it did. -/
def lawS2361CExactSpec : ChangeSpec := { name := "lawS2361CExact", fn := fun _ => fun
  | [d1, d2] => { results := [.lit (.bool true)], args := [d1, d2] }
  | _ => none }
def lawS2361CExactRow : OpenClaim := { program := "ybulkavwi", sum := "23b18df38b721513760ca8ce7f20e96a922d1a36a93735e66f4ed58a2acadece", func := "example.com/keelson/keelson.LawS2361CExact", spec := "lawS2361CExact", unfollowed := true, recurses := true, apart := false }
def LawS2361CExactSaid : Prop := lawS2361CExactRow.holds Yba.pinned (OpenSpec.ofChange lawS2361CExactSpec)

/-- ITS FALSE NEIGHBOUR: 'it returns false'. Refute it at one input. -/
def lawS2361CExactWrong : ChangeSpec := { name := "lawS2361CExact", fn := fun _ => fun
  | [d1, d2] => { results := [.lit (.bool false)], args := [d1, d2] }
  | _ => none }
def LawS2361CExactWrongFalsely : Prop := lawS2361CExactRow.holds Yba.pinned (OpenSpec.ofChange lawS2361CExactWrong)

/-- 'keelson.LawS2361CIdem': WHATEVER THE INPUT: true; the input reads as it did. -/
def lawS2361CIdemSpec : ChangeSpec := { name := "lawS2361CIdem", fn := fun _ => fun
  | [d1, d2] => { results := [.lit (.bool true)], args := [d1, d2] }
  | _ => none }
def lawS2361CIdemRow : OpenClaim := { program := "ybulkavwi", sum := "23b18df38b721513760ca8ce7f20e96a922d1a36a93735e66f4ed58a2acadece", func := "example.com/keelson/keelson.LawS2361CIdem", spec := "lawS2361CIdem", unfollowed := true, recurses := true, apart := false }
def LawS2361CIdemSaid : Prop := lawS2361CIdemRow.holds Yba.pinned (OpenSpec.ofChange lawS2361CIdemSpec)

/-- ITS FALSE NEIGHBOUR: 'it returns false'. Refute it at one input. -/
def lawS2361CIdemWrong : ChangeSpec := { name := "lawS2361CIdem", fn := fun _ => fun
  | [d1, d2] => { results := [.lit (.bool false)], args := [d1, d2] }
  | _ => none }
def LawS2361CIdemWrongFalsely : Prop := lawS2361CIdemRow.holds Yba.pinned (OpenSpec.ofChange lawS2361CIdemWrong)

end Rows
end Go.Proofs.Ybulkavwi
