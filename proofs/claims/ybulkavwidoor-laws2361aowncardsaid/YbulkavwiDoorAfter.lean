/-
  index, over the tree that the law has built.
-/
import Derived.Test.YbulkavwiDoorLook
import Derived.WideLaws
namespace Go.Proofs.YbulkavwiDoor
open Go.RowKit
set_option linter.unusedSimpArgs false
set_option linter.unusedVariables false

/-- What stands behind the loops. -/
def Stood (w wr : World) (B pb nb mb gs na vn : Nat) (ca : Option Addr) (cc : Nat) (kid sch : Nat → Nat) (chv : Value) : Prop :=
  Tree wr pb nb mb ca (na + vn) cc na kid sch ∧ (∀ g, ca = some ⟨g, 0, none⟩ → g < wr.heap.size ∧ g ≠ pb) ∧ Bld w wr B pb w.heap.size nb mb (na + vn) kid sch chv ∧ RowAt wr gs 39 vn (fun j => encP (kid (na + j)))

theorem upto_get (kid : Nat → Nat) (a n j : Nat) (hj : j < n) : ((upto kid a n).map encP)[j]? = some (encP (kid (a + j))) := by
  simp [upto, hj]

theorem rows_of {W : World} {B n : Nat} {v : Value} {xs : List Value} {f : Nat → Value} (h : W.ownsRow B 39 1 v n xs) (hx : ∀ j, j < n → xs[j]? = some (f j)) : ∃ vo cv, v = .slice vo n cv ∧ ∀ j, j < n → ∃ g, vo = some ⟨g, 0, none⟩ ∧ W.cell? ⟨g, j, none⟩ = some (f j) := by
  rcases h.2 with ⟨e, e0⟩ | ⟨g, cap, cur, e, _, hg, _, _, _, ht⟩
  · subst e0
    exact ⟨none, 0, e, fun j hj => by omega⟩
  · refine ⟨_, cap, e, fun j hj => ⟨g, rfl, ?_⟩⟩
    have h1 := hx j hj
    rw [← ht, List.getElem?_take, if_pos (by omega)] at h1
    unfold World.cell?
    rw [hg]
    simpa using h1

theorem after_all (w wr W : World) (B pb nb mb gs na vn cc eb ib cl : Nat) (ca : Option Addr) (kid sch : Nat → Nat) (chv : Value) (hT : Stood w wr B pb nb mb gs na vn ca cc kid sch chv) (z1 : w.heap.size < nb) (z2 : nb < mb) (z3 : mb < pb) (z4 : pb < gs)
    (he : W.cell? ⟨eb, 3, none⟩ = some (.map (some ib))) (hi : W.heap[ib]? = some (.map #[] cl)) (hbW : Below wr.heap.size wr W) (h1 : wr.heap.size ≤ ib) (h2 : wr.heap.size ≤ eb) (h3 : eb ≠ ib) :
    Calls Ybad.prog 7 #[.pointer (some ⟨eb, 0, none⟩), .pointer (some ⟨pb, 0, none⟩), .pointer (some ⟨nb, 0, none⟩), .slice none 0 0] W fun e W' => ∃ bm es clm vo cv, e = .returned (.map (some bm)) ∧ W'.heap[bm]? = some (.map es clm) ∧ es.size = (if vn = 0 then 0 else 1) ∧
      (∀ V : World, V.heap[bm]? = some (.map es clm) → (Instr.lookup 49 (.map (some bm)) (.string ⟨#[]⟩) false).run Ybad.prog V = .ok (.slice vo vn cv) V) ∧ (∀ j, j < vn → ∃ g, vo = some ⟨g, 0, none⟩ ∧ W'.cell? ⟨g, j, none⟩ = some (encP (kid (na + j)))) ∧
      W'.heap[ib]? = some (.map #[{ key := ik pb nb none ⟨#[]⟩, val := .map (some bm), born := cl }] (cl + 1)) ∧ W'.cell? ⟨eb, 3, none⟩ = some (.map (some ib)) ∧ (∀ j, j < vn → W'.cell? ⟨gs, j, none⟩ = some (encP (kid (na + j)))) ∧ Below w.heap.size w W' := by
  obtain ⟨ht, hgp, hb, hr⟩ := hT
  have lp : pb < wr.heap.size := Nat.lt_of_lt_of_le hb.lp hb.size
  have lgs := hr.lt
  have hsz := hbW.size
  have hws := hb.below.size
  refine (index_all eb ib cl pb nb w.heap.size mb (na + vn) cc na ca kid sch W (ht.grown hbW) ((hbW.cell (p := ⟨pb, 3, none⟩) lp).trans hb.c3) ((hbW.frozen (p := ⟨pb, 3, none⟩) lp).trans hb.f3) (by omega) (by omega) (fun g hg => by have := hgp g hg; omega)
    ((hbW.cell (p := ⟨pb, 0, none⟩) lp).trans hb.c0) ((hbW.cell (p := ⟨nb, 5, none⟩) (cell_lt hb.n5)).trans hb.n5) ((hbW.cell (p := ⟨w.heap.size, 5, none⟩) (cell_lt hb.r5)).trans hb.r5) he hi (by omega)).mono ?_
  rintro e W' ⟨bm, BB, rfl, hbm, hbB, hG, hib, hK⟩
  rw [Nat.add_sub_cancel_left] at hG
  obtain ⟨es, clm, v, g1, g2, g3, g4⟩ := hG.one
  have hl : (upto kid na vn).length = vn := by simp [upto]
  rw [hl] at g4
  have hnil : (upto kid na vn = []) = (vn = 0) := by
    apply propext
    rw [← List.length_eq_zero_iff, hl]
  simp only [hnil] at g2
  obtain ⟨vo, cv, rfl, hcells⟩ := rows_of g4 (fun j hj => upto_get kid na vn j hj)
  have leb := cell_lt he
  refine ⟨bm, es, clm, vo, cv, rfl, g1, g2, g3, hcells, hib, (hK.cell leb (by omega) h3 3).trans he, fun j hj => ?_, hK.below (hb.below.trans (hbW.mono hws)) (Nat.le_refl _) (by omega) (by omega)⟩
  exact (hK.cell (b := gs) (by omega) (by omega) (by omega) j).trans ((hbW.cell (p := ⟨gs, j, none⟩) lgs).trans (hr.cell j hj))

theorem len49 {w : World} {b cl : Nat} {es : Array MapEntry} (hb : w.heap[b]? = some (.map es cl)) : (Builtin.len_ #[49] 3 #[.map (some b)]).run Ybad.prog w = .ok (.int .i64 es.size) w :=
  run_len_map (w := w) 49 3 b es cl (by kernel_rfl) hb
theorem len54 {w : World} {b cl : Nat} {es : Array MapEntry} (hb : w.heap[b]? = some (.map es cl)) : (Builtin.len_ #[54] 3 #[.map (some b)]).run Ybad.prog w = .ok (.int .i64 es.size) w :=
  run_len_map (w := w) 54 3 b es cl (by kernel_rfl) hb

theorem built62 (p q : Option Addr) : Ybad.prog.built 62 [(0, .pointer p), (1, .pointer q)] = some #[.pointer p, .pointer q, .pointer none, .string ⟨#[]⟩] := by kernel_rfl
theorem build62 (w : World) (p q : Option Addr) : (Instr.build 62 #[(0, .pointer p), (1, .pointer q)]).run Ybad.prog w = .ok (.agg #[.pointer p, .pointer q, .pointer none, .string ⟨#[]⟩]) w := run_build w 62 _ _ (built62 p q)

end Go.Proofs.YbulkavwiDoor
