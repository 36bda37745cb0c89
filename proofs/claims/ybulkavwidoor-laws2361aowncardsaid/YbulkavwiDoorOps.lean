/-
  The operations of the round's regions, one by one.
-/
import Derived.Test.YbulkavwiDoorRound
namespace Go.Proofs.YbulkavwiDoor
open Go.RowKit
set_option linter.unusedSimpArgs false
set_option linter.unusedVariables false

theorem x_load49 {a : Act} {w : World} {o : Oper} {t c bm : Nat} (ho : o.op = .load 49 (.tmp t)) (h : a.eval (.tmp t) = .pointer (some ⟨c, 0, none⟩)) (hc : w.cell? ⟨c, 0, none⟩ = some (.map (some bm))) :
    (execOp a.eval o).run Ybad.prog w = .ok (.value (.map (some bm))) w := by
  simp only [execOp, ho]
  rw [h]
  simp [go_sem, hc]

theorem x_move {a : Act} {w : World} {o : Oper} {x : Operand} {v : Value} (ho : o.op = .move x) (h : a.eval x = v) : (execOp a.eval o).run Ybad.prog w = .ok (.value v) w := by
  simp only [execOp, ho]
  rw [h]
  simp [go_sem]

theorem x_lookup49 {a : Act} {w : World} {o : Oper} {x k : Operand} {m kv v : Value} (ho : o.op = .lookup 49 x k false) (hx : a.eval x = m) (hk : a.eval k = kv) (hr : (Instr.lookup 49 m kv false).run Ybad.prog w = .ok v w) :
    (execOp a.eval o).run Ybad.prog w = .ok (.value v) w := by
  simp only [execOp, ho]
  rw [hx, hk]
  simp [go_sem, hr]

theorem x_build {a : Act} {w : World} {o : Oper} {x : Operand} {p : Nat} (ho : o.op = .buildSlice 40 1 #[(0, x)]) (hx : a.eval x = .pointer (some ⟨p, 0, none⟩)) :
    (execOp a.eval o).run Ybad.prog w = .ok (.value (.slice (some ⟨w.heap.size, 0, none⟩) 1 1)) (w.alloc (.cells #[.pointer (some ⟨p, 0, none⟩)] 39)) := by
  simp only [execOp, ho, List.map_toArray, List.map_cons, List.map_nil, hx]
  simp [go_sem]

theorem x_append {a : Act} {w w' : World} {o : Oper} {x y : Operand} {v u v' : Value} (ho : o.op = .call { callee := .builtin .append, args := #[x, y], argTypes := #[40, 40] }) (ht : o.type = 40) (hx : a.eval x = v) (hy : a.eval y = u)
    (hr : (Builtin.append_ #[40, 40] 40 #[v, u]).run Ybad.prog w = .ok v' w') : (execOp a.eval o).run Ybad.prog w = .ok (.value v') w' := by
  simp [execOp, ho, resolve, invoke, builtin, hx, hy, ht, hr, Result.andThen]

theorem x_update {a : Act} {w w' : World} {o : Oper} {x k y : Operand} {m kv v : Value} (ho : o.op = .mapUpdate 49 x k y) (hx : a.eval x = m) (hk : a.eval k = kv) (hy : a.eval y = v) (hr : (Instr.mapUpdate 49 m kv v).run Ybad.prog w = .ok () w') :
    (execOp a.eval o).run Ybad.prog w = .ok .skip w' := by
  simp only [execOp, ho]
  rw [hx, hk, hy]
  simp [go_sem, hr]

end Go.Proofs.YbulkavwiDoor
