/-
  The laws of the three maps, on the map's own entries.
-/
import Derived.Test.YbulkavwiDoorRows
import Derived.RangeFuncNested
import Derived.RangeFuncBound
import Derived.RangeFuncCalls
import Derived.RangeFuncLeaves
import Derived.Shelf.Abstract
import Derived.Shelf.RegionOpen
import Derived.WalkKit
import Derived.WalkSpells
import Derived.WalkLawsBesides
import Derived.OwnWalkIn
import Derived.TacticsInMore
import Derived.LoopNIn
import Derived.LoopIn
import Derived.Maps.OwnIn
import Derived.Maps.AppendAt
import Derived.Deep.RegionHeld3
namespace Go.Proofs.YbulkavwiDoor
open Go.RowKit
set_option linter.unusedSimpArgs false
set_option linter.unusedVariables false

/-- The entries of a map by strings. -/
def Ents (es : Array MapEntry) (kvs : List (ByteArray × Value)) : Prop := es.toList.map (fun e => (e.key, e.val)) = kvs.map (fun p => (Value.string p.1, p.2))

/-- The place of a key, and what stands there. -/
def find (s : ByteArray) : List (ByteArray × Value) → Nat → Option (Nat × Value)
  | [], _ => none
  | (k, v) :: r, i => if s = k then some (i, v) else find s r (i + 1)

theorem findNow_ents (s : ByteArray) : ∀ (es : List MapEntry) (kvs : List (ByteArray × Value)) (i : Nat), es.map (fun e => (e.key, e.val)) = kvs.map (fun p => (Value.string p.1, p.2)) →
    Instr.findNow .string (.string s) es i = some (find s kvs i)
  | [], [], _, _ => rfl
  | [], _ :: _, _, h => by simp at h
  | _ :: _, [], _, h => by simp at h
  | e :: es, (k, v) :: kvs, i, h => by
    simp only [List.map_cons, List.cons.injEq, Prod.mk.injEq] at h
    obtain ⟨⟨hk, hv⟩, hr⟩ := h
    by_cases c : s = k
    · subst c
      have hb : (s == s) = true := (MapKept.bytes_beq s s).2 rfl
      simp only [Instr.findNow, Instr.sameNow, hk, hv, hb, find, if_true]
    · have hb : (s == k) = false := by
        cases hh : (s == k) with
        | false => rfl
        | true => exact absurd ((MapKept.bytes_beq s k).1 hh) c
      simp only [Instr.findNow, Instr.sameNow, hk, hb, find, c, if_false]
      exact findNow_ents s es kvs (i + 1) hr

theorem key_ok {w : World} (s : ByteArray) (e : Bool) : (Instr.checkKey e 10000 9 (.string s)).run Ybad.prog w = .ok () w :=
  MapKept.run_checkKey (k := .string s) Ybad.underlying9 (by simp [MapKept.IsKey]) e 9999

theorem lookup49 {w : World} {b clock : Nat} {es : Array MapEntry} {kvs : List (ByteArray × Value)} (s : ByteArray) (hb : w.heap[b]? = some (.map es clock)) (he : Ents es kvs) :
    (Instr.lookup 49 (.map (some b)) (.string s) false).run Ybad.prog w = .ok (((find s kvs 0).map (·.2)).getD (.slice none 0 0)) w := by
  have hf := MapKept.run_findKey (P := Ybad.prog) (w := w) Ybad.underlying9 (findNow_ents s es.toList kvs 0 he)
  simp only [Instr.lookup, Sem.run_bind, run_underlying Ybad.underlying49, Result.andThen, MapKept.run_getObj_map hb, key_ok, hf, Sem.run_pure]
  cases find s kvs 0 with
  | none => simp [Ybad.zeroValue40, Result.andThen]
  | some q => simp [Result.andThen]

/-- What a store makes of the entries. -/
def ins (s : ByteArray) (v : Value) : List (ByteArray × Value) → List (ByteArray × Value)
  | [] => [(s, v)]
  | (k, u) :: r => if s = k then (k, v) :: r else (k, u) :: ins s v r

theorem ins_none (s : ByteArray) (v : Value) : ∀ (kvs : List (ByteArray × Value)) (i : Nat), find s kvs i = none → ins s v kvs = kvs ++ [(s, v)]
  | [], _, _ => rfl
  | (k, u) :: r, i, h => by
    by_cases c : s = k
    · simp [find, c] at h
    · simp only [find, c, if_false] at h
      simp [ins, c, ins_none s v r (i + 1) h]

theorem ins_some (s : ByteArray) (v u : Value) : ∀ (kvs : List (ByteArray × Value)) (i j : Nat), find s kvs i = some (j, u) → i ≤ j ∧ kvs[j - i]? = some (s, u) ∧ ins s v kvs = kvs.set (j - i) (s, v)
  | [], _, _, h => by simp [find] at h
  | (k, x) :: r, i, j, h => by
    by_cases c : s = k
    · subst c
      simp only [find, if_true, Option.some.injEq, Prod.mk.injEq] at h
      obtain ⟨rfl, rfl⟩ := h
      simp [ins]
    · simp only [find, c, if_false] at h
      obtain ⟨h1, h2, h3⟩ := ins_some s v u r (i + 1) j h
      have e : j - i = (j - (i + 1)) + 1 := by omega
      refine ⟨by omega, ?_, ?_⟩
      · rw [e]; simpa using h2
      · rw [e]; simp [ins, c, h3]

theorem update49 {w : World} {b clock : Nat} {es : Array MapEntry} {kvs : List (ByteArray × Value)} (s : ByteArray) (v : Value) (hb : w.heap[b]? = some (.map es clock)) (he : Ents es kvs) :
    ∃ es' clock', (Instr.mapUpdate 49 (.map (some b)) (.string s) v).run Ybad.prog w = .ok () (w.putObj b (.map es' clock')) ∧ Ents es' (ins s v kvs) := by
  have hf := MapKept.run_findKey (P := Ybad.prog) (w := w) Ybad.underlying9 (findNow_ents s es.toList kvs 0 he)
  have hl : es.toList.length = kvs.length := by have := congrArg List.length he; simpa [Ents] using this
  cases hq : find s kvs 0 with
  | none =>
    rw [hq] at hf
    refine ⟨es.push { key := .string s, val := v, born := clock }, clock + 1, ?_, ?_⟩
    · simp only [Instr.mapUpdate, Sem.run_bind, run_underlying Ybad.underlying49, Result.andThen, MapKept.run_getObj_map hb, key_ok, hf, MapKept.run_setObj_map _ hb]
      rfl
    · rw [ins_none s v kvs 0 hq]
      unfold Ents at he ⊢
      simp [he]
  | some q =>
    obtain ⟨j, u⟩ := q
    rw [hq] at hf
    obtain ⟨-, h2, h3⟩ := ins_some s v u kvs 0 j hq
    simp only [Nat.sub_zero] at h2 h3
    have hj : j < es.size := by
      have := (List.getElem?_eq_some_iff.1 h2).1
      simp at hl
      omega
    have hk : es[j].key = .string s := by
      have h5 : (es.toList.map (fun e => (e.key, e.val)))[j]? = some (.string s, u) := by rw [show es.toList.map (fun e => (e.key, e.val)) = _ from he, List.getElem?_map, h2]; rfl
      simp [hj] at h5
      exact h5.1
    have hst : (Instr.keyThatStays (.string s) (.string s)).run Ybad.prog w = .ok (.string s) w := by
      have hb : (s == s) = true := (MapKept.bytes_beq s s).2 rfl
      simp [Instr.keyThatStays, Instr.sameBits, hb]
    refine ⟨es.modify j fun e => { e with key := .string s, val := v }, clock, ?_, ?_⟩
    · simp only [Instr.mapUpdate, Sem.run_bind, run_underlying Ybad.underlying49, Result.andThen, MapKept.run_getObj_map hb, key_ok, hf, Array.getElem?_eq_getElem hj, Option.map_some, Option.getD_some, hk, hst, MapKept.run_setObj_map _ hb]
      rfl
    · rw [h3]
      unfold Ents at he ⊢
      apply List.ext_getElem?
      intro m
      have hm : (es.toList.map (fun e => (e.key, e.val)))[m]? = (kvs.map (fun p => (Value.string p.1, p.2)))[m]? := by rw [he]
      simp only [List.getElem?_map, Array.getElem?_toList, List.getElem?_set] at hm ⊢
      by_cases c : j = m
      · subst c
        have hkl : j < kvs.length := (List.getElem?_eq_some_iff.1 h2).1
        simp only [Array.getElem?_modify, if_true, Array.getElem?_eq_getElem hj, Option.map_some, hkl]
      · simp only [Array.getElem?_modify, c, if_false]
        exact hm

end Go.Proofs.YbulkavwiDoor
