/-
  No cell of these rows narrows 'for every input' (looked for: loops, veiled, ifaces, maps, wideKeys, modest, calm, conditions, laid).
  DERIVED. THE GIVEN ROWS OF THIS SEAT. 2 by the template 'for every input the law returns true; each argument reads behind the call as it read before'; 0 by the template 'total and deterministic' (their statements: YbulkavtcTotals.lean).
  GIVEN WITH THE SEED: the statements are not yours to turn. If you find one false, say at which input.
  Laid BY PROGRAM, IN A SANDBOX (cutbox-rows.mjs): the forced cells as the released guide's own fill.sh prints them over the translation c2e70d7b8b734757… (all of the seat's roots in one cut). By AI agents, Wed Nov 11 2026. No macro, syntax, notation, axiom, sorry.
-/
import Derived.Test.YbulkavtcChecked
import GoSem.Claim
import GoSem.ClaimJoined
import GoSem.ClaimMapViews
import Derived.JoinedTies
import Derived.KernelRfl
namespace Go.Proofs.Ybulkavtc
/- THE CELL 'sum', in the pinned program and in every row, IS THE sha256 OF THE DUMP (.gsa) THAT YbulkavtcProg.lean LOADS. Nothing in Lean hashes anything: it is a label: what it is worth is what the hold of that sum in a sandbox is worth. -/
noncomputable def Yba.pinned : Pinned := { name := "ybulkavtc", sum := "c2e70d7b8b7347571f0848138af1cb3d8feb0d6faf62ce90c54394d25d1744c3", checked := Yba.checked }
namespace Rows
def none {H : Type} : Left H := { results := [], args := [] }

/-- 'invindex.LawS2355BBuild': WHATEVER THE INPUT: true; the input reads as it did. -/
def lawS2355BBuildSpec : ChangeSpec := { name := "lawS2355BBuild", fn := fun _ => fun
  | [d] => { results := [.lit (.bool true)], args := [d] }
  | _ => none }
def lawS2355BBuildRow : OpenClaim := { program := "ybulkavtc", sum := "c2e70d7b8b7347571f0848138af1cb3d8feb0d6faf62ce90c54394d25d1744c3", func := "example.com/implica/implica/invindex.LawS2355BBuild", spec := "lawS2355BBuild", recurses := true, apart := false }
def LawS2355BBuildSaid : Prop := lawS2355BBuildRow.holds Yba.pinned (OpenSpec.ofChange lawS2355BBuildSpec)

/-- ITS FALSE NEIGHBOUR: 'it returns false'. Refute it at one input. -/
def lawS2355BBuildWrong : ChangeSpec := { name := "lawS2355BBuild", fn := fun _ => fun
  | [d] => { results := [.lit (.bool false)], args := [d] }
  | _ => none }
def LawS2355BBuildWrongFalsely : Prop := lawS2355BBuildRow.holds Yba.pinned (OpenSpec.ofChange lawS2355BBuildWrong)

/-- 'invindex.LawS2355BPersist': WHATEVER THE INPUT: true; the input reads as it did. -/
def lawS2355BPersistSpec : ChangeSpec := { name := "lawS2355BPersist", fn := fun _ => fun
  | [d1, d2] => { results := [.lit (.bool true)], args := [d1, d2] }
  | _ => none }
def lawS2355BPersistRow : OpenClaim := { program := "ybulkavtc", sum := "c2e70d7b8b7347571f0848138af1cb3d8feb0d6faf62ce90c54394d25d1744c3", func := "example.com/implica/implica/invindex.LawS2355BPersist", spec := "lawS2355BPersist", recurses := true, apart := false }
def LawS2355BPersistSaid : Prop := lawS2355BPersistRow.holds Yba.pinned (OpenSpec.ofChange lawS2355BPersistSpec)

/-- ITS FALSE NEIGHBOUR: 'it returns false'. Refute it at one input. -/
def lawS2355BPersistWrong : ChangeSpec := { name := "lawS2355BPersist", fn := fun _ => fun
  | [d1, d2] => { results := [.lit (.bool false)], args := [d1, d2] }
  | _ => none }
def LawS2355BPersistWrongFalsely : Prop := lawS2355BPersistRow.holds Yba.pinned (OpenSpec.ofChange lawS2355BPersistWrong)

end Rows
end Go.Proofs.Ybulkavtc
