/-
  index, asked again; newEvaluation.
-/
import Derived.Test.YbulkavwiDoorIdxA
namespace Go.Proofs.YbulkavwiDoor
open Go.RowKit Go.Shelf
set_option linter.unusedSimpArgs false
set_option linter.unusedVariables false
attribute [local go_sem] Oper.semAt_some

set_option maxRecDepth 100000 in
set_option maxHeartbeats 1000000 in
theorem index_hit (eb ib cl k pb nb bm : Nat) (w : World) (he : w.cell? ⟨eb, 3, none⟩ = some (.map (some ib))) (hi : w.heap[ib]? = some (.map #[{ key := ik pb nb none ⟨#[]⟩, val := .map (some bm), born := k }] cl)) :
    Calls Ybad.prog 7 #[.pointer (some ⟨eb, 0, none⟩), .pointer (some ⟨pb, 0, none⟩), .pointer (some ⟨nb, 0, none⟩), .slice none 0 0] w fun e w' => e = .returned (.map (some bm)) ∧ Below w.heap.size w w' := by
  have li := (Array.getElem?_eq_some_iff.1 hi).1
  have le := cell_lt he
  refine (callsIn_wide (n := 8)).1 ?_
  refine callsIn_of_wp_marks Ybad.func7 rfl trivial ?_ rfl
  simp only [Ybad.ntmps7, List.size_toArray, List.length_cons, List.length_nil, Nat.reduceAdd, Nat.reduceSub, Array.replicate_succ, Array.replicate_zero, List.push_toArray, List.append_toArray, List.nil_append, List.cons_append]
  gi_wp2_with fail
  have B0 : Below w.heap.size w (((w.alloc (.cells #[.pointer (some ⟨nb, 0, none⟩)] 23)).alloc (.cells #[.slice none 0 0] 26)).alloc (.cells #[.pointer (some ⟨pb, 0, none⟩), .pointer (some ⟨nb, 0, none⟩), .pointer none, .string ⟨#[]⟩] 62)) :=
    (((Below.refl _ _).alloc (Nat.le_refl _) _).alloc (by simp) _).alloc (by simp; omega) _
  have y0 : (((w.alloc (.cells #[.pointer (some ⟨nb, 0, none⟩)] 23)).alloc (.cells #[.slice none 0 0] 26)).alloc (.cells #[.pointer (some ⟨pb, 0, none⟩), .pointer (some ⟨nb, 0, none⟩), .pointer none, .string ⟨#[]⟩] 62)).cell? ⟨w.heap.size + 1 + 1, 0, none⟩ = some (.pointer (some ⟨pb, 0, none⟩)) := by go_simp
  have y1 : (((w.alloc (.cells #[.pointer (some ⟨nb, 0, none⟩)] 23)).alloc (.cells #[.slice none 0 0] 26)).alloc (.cells #[.pointer (some ⟨pb, 0, none⟩), .pointer (some ⟨nb, 0, none⟩), .pointer none, .string ⟨#[]⟩] 62)).cell? ⟨w.heap.size + 1 + 1, 1, none⟩ = some (.pointer (some ⟨nb, 0, none⟩)) := by go_simp
  have y2 : (((w.alloc (.cells #[.pointer (some ⟨nb, 0, none⟩)] 23)).alloc (.cells #[.slice none 0 0] 26)).alloc (.cells #[.pointer (some ⟨pb, 0, none⟩), .pointer (some ⟨nb, 0, none⟩), .pointer none, .string ⟨#[]⟩] 62)).cell? ⟨w.heap.size + 1 + 1, 2, none⟩ = some (.pointer none) := by go_simp
  have y3 : (((w.alloc (.cells #[.pointer (some ⟨nb, 0, none⟩)] 23)).alloc (.cells #[.slice none 0 0] 26)).alloc (.cells #[.pointer (some ⟨pb, 0, none⟩), .pointer (some ⟨nb, 0, none⟩), .pointer none, .string ⟨#[]⟩] 62)).cell? ⟨w.heap.size + 1 + 1, 3, none⟩ = some (.string ⟨#[]⟩) := by go_simp
  generalize (((w.alloc (.cells #[.pointer (some ⟨nb, 0, none⟩)] 23)).alloc (.cells #[.slice none 0 0] 26)).alloc (.cells #[.pointer (some ⟨pb, 0, none⟩), .pointer (some ⟨nb, 0, none⟩), .pointer none, .string ⟨#[]⟩] 62)) = W0 at *
  have ye := (B0.cell (p := ⟨eb, 3, none⟩) le).trans he
  have yi := (B0.block ib li).trans hi
  have q := lookup54_one (w := W0.drew) pb nb ⟨#[]⟩ (.map (some bm)) yi
  unfold ik at q
  have HB0 : Hid (Below w.heap.size w W0) := B0
  clear yi hi
  refine wpIn_wide.2 ?_
  go_region_held3 (fun w' => w'.cell? ⟨eb, 3, none⟩ = some (.map (some ib)) ∧ w'.cell? ⟨w.heap.size + 1 + 1, 0, none⟩ = some (.pointer (some ⟨pb, 0, none⟩)) ∧ w'.cell? ⟨w.heap.size + 1 + 1, 1, none⟩ = some (.pointer (some ⟨nb, 0, none⟩)) ∧ w'.cell? ⟨w.heap.size + 1 + 1, 2, none⟩ = some (.pointer none) ∧ w'.cell? ⟨w.heap.size + 1 + 1, 3, none⟩ = some (.string ⟨#[]⟩)) (first | exact ⟨ye, y0, y1, y2, y3⟩) (fail)
  gi_wp2_with fail
  exact ⟨_, results_tmp rfl _ _ _, rfl, HB0.out.drew⟩

set_option maxRecDepth 100000 in
set_option maxHeartbeats 1000000 in
theorem newEval (w : World) :
    Calls Ybad.prog 6 #[.pointer none, .pointer none, .map none] w fun e w' => ∃ eb ib cl, e = .returned (.pointer (some ⟨eb, 0, none⟩)) ∧ w'.cell? ⟨eb, 3, none⟩ = some (.map (some ib)) ∧ w'.heap[ib]? = some (.map #[] cl) ∧ Below w.heap.size w w' ∧ w.heap.size ≤ ib ∧ w.heap.size ≤ eb ∧ eb ≠ ib := by
  have mm := @run_makeMap Ybad.prog
  go_enter Ybad.func6, Ybad.ntmps6
  go_wp2_with fail
  go_ret
  refine ⟨w.heap.size + 1 + 1 + 1 + 1, w.heap.size, 0, rfl, by go_simp, ?_, ?_, by omega, by omega, by omega⟩
  · exact (Below.heap_alloc _ _ _ (by simp; omega)).trans ((Below.heap_alloc _ _ _ (by simp; omega)).trans ((Below.heap_alloc _ _ _ (by simp; omega)).trans ((Below.heap_alloc _ _ _ (by simp)).trans (World.alloc_heap_new w _))))
  · exact (((((Below.refl _ w).alloc (Nat.le_refl _) _).alloc (by simp) _).alloc (by simp; omega) _).alloc (by simp; omega) _).alloc (by simp; omega) _

end Go.Proofs.YbulkavwiDoor
