/-
  The walks of (*routeTable).changes; laws for channels.
-/
import Derived.Test.YbulkavwwDoorLocks
import Derived.Conc.MuLone
import Derived.Conc.SmallLaws
import Derived.WalkKit
import Derived.WalkSpells
import Derived.WalkLawsBesides
import Derived.OwnWalk
import Derived.Deep.QuietTactic
import Derived.BigQuiet
import Derived.Deep.RegionHeld3
import Derived.Deep.DrawnRows
namespace Go.Proofs.YbulkavwwDoor
open Go.RowKit

theorem Ybad.info28 : (Ybad.prog.info? 28).map (fun i => (i.zero, i.size, i.bytes)) = some (some (.agg #[]), 0, 0) := by kernel_rfl

theorem make_chan (w : World) : (Instr.makeChan 42 (.int .i64 0)).run Ybad.prog w = .ok (.chan (some w.heap.size)) (w.alloc (.chan 0 #[] false 0 0 false)) := by
  obtain ⟨i0, hi, hz0, hz1, hz2⟩ := info_parts Ybad.info28
  exact Conc.run_makeChan (P := Ybad.prog) Ybad.underlying42 hi .i64 0 (by decide) (by rw [hz2]; decide)

theorem equalIn_chan {P : Program} (w : World) (d : Nat) (t e : TypeId) (dir : ChanDir) (a b : Option Nat) (h : P.underlying t = some (.chan dir e)) :
    (Op.equalIn (d + 1) t (.chan a) (.chan b)).run P w = .ok (a == b) w := by
  simp [Op.equalIn, run_underlying h]
theorem eql_chan (w : World) (a b : Option Nat) : (binOp .eql 42 (.chan a) (.chan b)).run Ybad.prog w = .ok (.bool (a == b)) w := by
  simp only [binOp]
  simp [Op.equal, Op.maxDepth, equalIn_chan w 9999 42 28 .both a b Ybad.underlying42]
theorem neq_chan (w : World) (a b : Option Nat) : (binOp .neq 42 (.chan a) (.chan b)).run Ybad.prog w = .ok (.bool (!(a == b))) w := by
  simp only [binOp]
  simp [Op.equal, Op.maxDepth, equalIn_chan w 9999 42 28 .both a b Ybad.underlying42]
theorem neq_chan' (w : World) (a b : Option Nat) : (binOp .neq 73 (.chan a) (.chan b)).run Ybad.prog w = .ok (.bool (!(a == b))) w := by
  simp only [binOp]
  simp [Op.equal, Op.maxDepth, equalIn_chan w 9999 73 28 .recv a b Ybad.underlying73]

theorem cell_lt {w : World} {b o : Nat} {v : Value} (h : w.cell? ⟨b, o, none⟩ = some v) : b < w.heap.size := by
  apply Decidable.byContradiction
  intro hn
  have : w.heap[b]? = none := by rw [Array.getElem?_eq_none_iff]; omega
  simp [World.cell?, this] at h

set_option maxRecDepth 100000 in
set_option maxHeartbeats 1000000 in
theorem changes_some (b o c : Nat) (w : World) (h : w.cell? ⟨b, o + 4, none⟩ = some (.chan (some c))) :
    Calls Ybad.prog 10 #[.pointer (some ⟨b, o, none⟩)] w fun e w' => e = .returned (.chan (some c)) ∧ w' = w := by
  have k := eql_chan
  go_enter Ybad.func10, Ybad.ntmps10
  go_wp2
  go_ret
  exact ⟨rfl, rfl⟩

set_option maxRecDepth 100000 in
set_option maxHeartbeats 1000000 in
theorem changes_none (b o : Nat) (w : World) (h : w.cell? ⟨b, o + 4, none⟩ = some (.chan none)) (hf : w.frozen? ⟨b, o + 4, none⟩ = false) :
    Calls Ybad.prog 10 #[.pointer (some ⟨b, o, none⟩)] w fun e w' => e = .returned (.chan (some w.heap.size)) ∧ w' = (w.setCell ⟨b, o + 4, none⟩ (.chan (some w.heap.size))).alloc (.chan 0 #[] false 0 0 false) := by
  have k := eql_chan
  have m := make_chan
  have hb := cell_lt h
  go_enter Ybad.func10, Ybad.ntmps10
  go_wp2
  go_ret
  exact ⟨rfl, rfl⟩

end Go.Proofs.YbulkavwwDoor
