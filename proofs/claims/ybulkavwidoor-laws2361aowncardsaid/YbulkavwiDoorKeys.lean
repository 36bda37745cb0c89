/-
  The map of indexes: its key is a struct.
-/
import Derived.Test.YbulkavwiDoorGrp
namespace Go.Proofs.YbulkavwiDoor
open Go.RowKit
set_option linter.unusedSimpArgs false
set_option linter.unusedVariables false

def ik (p n : Nat) (c : Option Addr) (s : ByteArray) : Value := .agg #[.pointer (some ⟨p, 0, none⟩), .pointer (some ⟨n, 0, none⟩), .pointer c, .string s]

theorem chk39 (w : World) (e : Bool) (a : Option Addr) : (Instr.checkKey e 9999 39 (.pointer a)).run Ybad.prog w = .ok () w := by
  unfold Instr.checkKey
  simp [run_underlying Ybad.underlying39, Result.andThen]
theorem chk23 (w : World) (e : Bool) (a : Option Addr) : (Instr.checkKey e 9999 23 (.pointer a)).run Ybad.prog w = .ok () w := by
  unfold Instr.checkKey
  simp [run_underlying Ybad.underlying23, Result.andThen]
theorem chk9 (w : World) (e : Bool) (s : ByteArray) : (Instr.checkKey e 9999 9 (.string s)).run Ybad.prog w = .ok () w := by
  unfold Instr.checkKey
  simp [run_underlying Ybad.underlying9, Result.andThen]
theorem key62 (w : World) (e : Bool) (p n : Nat) (c : Option Addr) (s : ByteArray) : (Instr.checkKey e 10000 62 (ik p n c s)).run Ybad.prog w = .ok () w := by
  unfold Instr.checkKey ik
  simp [run_underlying Ybad.underlying62, Result.andThen, go_sem, chk39, chk23, chk9]

theorem lookup54_nil {w : World} {b cl : Nat} (p n : Nat) (c : Option Addr) (s : ByteArray) (hb : w.heap[b]? = some (.map #[] cl)) :
    (Instr.lookup 54 (.map (some b)) (ik p n c s) true).run Ybad.prog w = .ok (.tuple #[.map none, .bool false]) w := by
  have hf : (Instr.findKey 62 (ik p n c s) []).run Ybad.prog w = .ok none w := by
    simp [Instr.findKey, run_underlying Ybad.underlying62, Result.andThen, Instr.findNow]
  simp only [Instr.lookup, Sem.run_bind, run_underlying Ybad.underlying54, Result.andThen, MapKept.run_getObj_map hb, key62, hf, Sem.run_pure]
  simp [Ybad.zeroValue49, Result.andThen]

theorem update54_nil {w : World} {b cl : Nat} (p n : Nat) (c : Option Addr) (s : ByteArray) (v : Value) (hb : w.heap[b]? = some (.map #[] cl)) :
    (Instr.mapUpdate 54 (.map (some b)) (ik p n c s) v).run Ybad.prog w = .ok () (w.putObj b (.map #[{ key := ik p n c s, val := v, born := cl }] (cl + 1))) := by
  have hf : (Instr.findKey 62 (ik p n c s) []).run Ybad.prog w = .ok none w := by
    simp [Instr.findKey, run_underlying Ybad.underlying62, Result.andThen, Instr.findNow]
  simp only [Instr.mapUpdate, Sem.run_bind, run_underlying Ybad.underlying54, Result.andThen, MapKept.run_getObj_map hb, key62, hf, MapKept.run_setObj_map _ hb]
  rfl

theorem stood62 : Ybad.prog.stoodInHeld 62 = false := by kernel_rfl

theorem in39 (w : World) (d p : Nat) : (Op.equalIn (d + 1) 39 (.pointer (some ⟨p, 0, none⟩)) (.pointer (some ⟨p, 0, none⟩))).run Ybad.prog w = .ok true w := by
  obtain ⟨i, hi, -⟩ := info46
  simp [Op.equalIn, run_underlying Ybad.underlying39, sizeOf, typeInfo, hi, run_sameAddr_same]
theorem in23 (w : World) (d p : Nat) : (Op.equalIn (d + 1) 23 (.pointer (some ⟨p, 0, none⟩)) (.pointer (some ⟨p, 0, none⟩))).run Ybad.prog w = .ok true w := by
  obtain ⟨i, hi, -⟩ := info38
  simp [Op.equalIn, run_underlying Ybad.underlying23, sizeOf, typeInfo, hi, run_sameAddr_same]
theorem in23n (w : World) (d : Nat) : (Op.equalIn (d + 1) 23 (.pointer none) (.pointer none)).run Ybad.prog w = .ok true w := by
  simp [Op.equalIn, run_underlying Ybad.underlying23]
theorem in9 (w : World) (d : Nat) (s : ByteArray) : (Op.equalIn (d + 1) 9 (.string s) (.string s)).run Ybad.prog w = .ok true w := by
  have hb : (s == s) = true := (MapKept.bytes_beq s s).2 rfl
  simp [Op.equalIn, run_underlying Ybad.underlying9, hb]

theorem equal62 (w : World) (p n : Nat) (s : ByteArray) : (Op.equal 62 (ik p n none s) (ik p n none s)).run Ybad.prog w = .ok true w := by
  unfold ik
  simp only [Op.equal, Op.maxDepth]
  unfold Op.equalIn
  simp [run_underlying Ybad.underlying62, Result.andThen, go_sem, stood62, in39 w 9998, in23 w 9998, in23n w 9998, in9 w 9998]

theorem lookup54_one {w : World} {b cl k : Nat} (p n : Nat) (s : ByteArray) (v : Value) (hb : w.heap[b]? = some (.map #[{ key := ik p n none s, val := v, born := k }] cl)) :
    (Instr.lookup 54 (.map (some b)) (ik p n none s) true).run Ybad.prog w = .ok (.tuple #[v, .bool true]) w := by
  have hf : (Instr.findKey 62 (ik p n none s) [{ key := ik p n none s, val := v, born := k }]).run Ybad.prog w = .ok (some (0, v)) w := by
    simp only [Instr.findKey, Sem.run_bind, run_underlying Ybad.underlying62, Result.andThen, Instr.findNow, Instr.sameNow]
    simp [Instr.findAsking, equal62, Result.andThen]
  simp only [Instr.lookup, Sem.run_bind, run_underlying Ybad.underlying54, Result.andThen, MapKept.run_getObj_map hb, key62, hf, Sem.run_pure]
  simp

end Go.Proofs.YbulkavwiDoor
