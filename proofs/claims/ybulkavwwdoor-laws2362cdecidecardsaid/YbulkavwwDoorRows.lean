/-
  NARROWER THAN 'FOR EVERY INPUT', by the rows' own cells (each row's printed sentence says how): LawS2362CDecide: laid.
  DERIVED. THE GIVEN ROWS OF THIS SEAT. 1 by the template 'for every input the law returns true; each argument reads behind the call as it read before'; 0 by the template 'total and deterministic' (their statements: YbulkavwwDoorTotals.lean).
  GIVEN WITH THE SEED: the statements are not yours to turn. If you find one false, say at which input.
  Laid BY PROGRAM, IN A SANDBOX (cutbox-rows.mjs): the forced cells as the released guide's own fill.sh prints them over the translation 8fed1b35fbd1966b… (all of the seat's roots in one cut). By AI agents, Wed Nov 11 2026. No macro, syntax, notation, axiom, sorry.
-/
import Derived.Test.YbulkavwwDoorChecked
import GoSem.Claim
import GoSem.ClaimJoined
import GoSem.ClaimMapViews
import Derived.JoinedTies
import Derived.KernelRfl
namespace Go.Proofs.YbulkavwwDoor
/- THE CELL 'sum', in the pinned program and in every row, IS THE sha256 OF THE DUMP (.gsa) THAT YbulkavwwDoorProg.lean LOADS. Nothing in Lean hashes anything: it is a label: what it is worth is what the hold of that sum in a sandbox is worth. -/
noncomputable def Ybad.pinned : Pinned := { name := "ybulkavwwdoor", sum := "8fed1b35fbd1966bfefb078e937668ad2cbb7d94a64d1716dfc3e2d00f59ebc3", checked := Ybad.checked }
namespace Rows
def none {H : Type} : Left H := { results := [], args := [] }

/- WHAT THE LISTED PACKAGE-LEVEL VARIABLES READ AS WHEN THE CALL BEGINS. Each datum BY PROGRAM (the guide's laid-datum.mjs) off the statement by which the dump's own 'gosem.cut.vars' lays the variable. In a bare row this is a premise. The card (YbulkavwwDoorCards.lean) ties it to the program's text. -/
def laid_example_com_circuitkeep_circuitkeep_routing_Unreachable {H : Type} : DataW H := .agg [.lit (.int .i64 31), .lit (.int .i64 1023)]

/-- 'node.LawS2362CDecide': WHATEVER THE INPUT: true; the input reads as it did. -/
def lawS2362CDecideSpec : ChangeSpec := { name := "lawS2362CDecide", vars := ["example.com/circuitkeep/circuitkeep/routing.Unreachable"], fn := fun _ => fun
  | [d1, d2, d3, d4, d5, d6, d7, g1] => { results := [.lit (.bool true)], args := [d1, d2, d3, d4, d5, d6, d7], vars := [g1] }
  | _ => none }
def lawS2362CDecideRow : OpenClaim := { program := "ybulkavwwdoor", sum := "8fed1b35fbd1966bfefb078e937668ad2cbb7d94a64d1716dfc3e2d00f59ebc3", func := "example.com/circuitkeep/circuitkeep/node.LawS2362CDecide", spec := "lawS2362CDecide", inPlace := ["(*internal/sync.Mutex).Lock", "internal/race.Disable", "sync/atomic.CompareAndSwapInt32", "internal/race.Enable", "internal/race.Acquire", "(*internal/sync.Mutex).lockSlow", "internal/sync.runtime_canSpin", "internal/sync.runtime_doSpin", "internal/sync.throw", "internal/sync.runtime_nanotime", "internal/sync.runtime_SemacquireMutex", "sync/atomic.AddInt32", "(*internal/sync.Mutex).Unlock", "internal/race.ReleaseMerge", "(*internal/sync.Mutex).unlockSlow", "internal/sync.fatal", "internal/sync.runtime_Semrelease"], named := ["example.com/circuitkeep/circuitkeep/routing.Unreachable"], plainKeys := false, apart := false, laid := [("example.com/circuitkeep/circuitkeep/routing.Unreachable", laid_example_com_circuitkeep_circuitkeep_routing_Unreachable)] }
def LawS2362CDecideSaid : Prop := lawS2362CDecideRow.holds Ybad.pinned (OpenSpec.ofChange lawS2362CDecideSpec)

/-- ITS FALSE NEIGHBOUR: 'it returns false'. Refute it at one input. -/
def lawS2362CDecideWrong : ChangeSpec := { name := "lawS2362CDecide", vars := ["example.com/circuitkeep/circuitkeep/routing.Unreachable"], fn := fun _ => fun
  | [d1, d2, d3, d4, d5, d6, d7, g1] => { results := [.lit (.bool false)], args := [d1, d2, d3, d4, d5, d6, d7], vars := [g1] }
  | _ => none }
def LawS2362CDecideWrongFalsely : Prop := lawS2362CDecideRow.holds Ybad.pinned (OpenSpec.ofChange lawS2362CDecideWrong)

end Rows
end Go.Proofs.YbulkavwwDoor
