/-
  The nodes that the laws build.
-/
import Derived.Test.YbulkavwiDoorIdxH
import Derived.Laws.Tables
namespace Go.Proofs.YbulkavwiDoor
open Go.RowKit
set_option linter.unusedSimpArgs false
set_option linter.unusedVariables false

/-- The cells of a node with a parent, a module and a name. -/
def nodeC (p : Option Addr) (s t : ByteArray) : Array Value :=
  #[.string ⟨#[]⟩, .string s, .string t, .pointer none, .slice none 0 0, .pointer p, .slice none 0 0, .pointer none, .slice none 0 0, .map none, .pointer none, .map none, .bool false, .bool false, .bool false, .bool false, .bool false,
    .slice none 0 0, .int .i64 0, .bool false, .string ⟨#[]⟩, .slice none 0 0, .slice none 0 0, .int .u32 0, .int .u32 0, .slice none 0 0, .slice none 0 0, .slice none 0 0, .bool false, .bool false, .slice none 0 0, .pointer none, .slice none 0 0,
    .slice none 0 0, .bool false, .bool false]

theorem built0 : Ybad.prog.built 38 [] = some (nodeC none ⟨#[]⟩ ⟨#[]⟩) := by kernel_rfl
theorem built3 (p : Option Addr) (s t : ByteArray) : Ybad.prog.built 38 [(5, .pointer p), (1, .string s), (2, .string t)] = some (nodeC p s t) := by kernel_rfl

theorem build0 (w : World) : (Instr.build 38 #[]).run Ybad.prog w = .ok (.agg (nodeC none ⟨#[]⟩ ⟨#[]⟩)) w := run_build w 38 #[] _ built0
theorem build3 (w : World) (p : Option Addr) (s t : ByteArray) : (Instr.build 38 #[(5, .pointer p), (1, .string s), (2, .string t)]).run Ybad.prog w = .ok (.agg (nodeC p s t)) w := run_build w 38 _ _ (built3 p s t)

/-- The cells of an instance. -/
def instC (n p : Option Addr) (s : ByteArray) : Array Value :=
  #[.pointer n, .pointer p, .slice none 0 0, .map none, .string s, .int .i32 0, .int .i32 0, .int .i32 0, .int .i32 0, .int .i32 (-1), .int .i32 0, .int .i32 0, .bool false, .bool false, .bool false, .int .u8 0]
theorem built46a (n : Option Addr) : Ybad.prog.built 46 [(0, .pointer n), (7, .int .i32 (-1))] = some (instC n none ⟨#[]⟩) := by kernel_rfl
theorem built46b (n p : Option Addr) : Ybad.prog.built 46 [(0, .pointer n), (1, .pointer p), (7, .int .i32 (-1))] = some (instC n p ⟨#[]⟩) := by kernel_rfl
theorem built46c (n p : Option Addr) (s : ByteArray) : Ybad.prog.built 46 [(0, .pointer n), (1, .pointer p), (4, .string s), (7, .int .i32 (-1))] = some (instC n p s) := by kernel_rfl
theorem build46a (w : World) (n : Option Addr) : (Instr.build 46 #[(0, .pointer n), (7, .int .i32 (-1))]).run Ybad.prog w = .ok (.agg (instC n none ⟨#[]⟩)) w := run_build w 46 _ _ (built46a n)
theorem build46b (w : World) (n p : Option Addr) : (Instr.build 46 #[(0, .pointer n), (1, .pointer p), (7, .int .i32 (-1))]).run Ybad.prog w = .ok (.agg (instC n p ⟨#[]⟩)) w := run_build w 46 _ _ (built46b n p)
theorem build46c (w : World) (n p : Option Addr) (s : ByteArray) : (Instr.build 46 #[(0, .pointer n), (1, .pointer p), (4, .string s), (7, .int .i32 (-1))]).run Ybad.prog w = .ok (.agg (instC n p s)) w := run_build w 46 _ _ (built46c n p s)

end Go.Proofs.YbulkavwiDoor
