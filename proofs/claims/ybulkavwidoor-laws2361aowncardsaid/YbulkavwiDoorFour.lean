/-
  The four blocks that the laws lay first.
-/
import Derived.Test.YbulkavwiDoorBld
namespace Go.Proofs.YbulkavwiDoor
open Go.RowKit
set_option linter.unusedSimpArgs false
set_option linter.unusedVariables false
attribute [local go_sem ↓] Go.wp_at_zero Go.wp_at_succ
attribute [-go_sem] Instr.build
attribute [local go_sem] build0 build3 build46a build46b build46c

/-- The four blocks that the laws lay first. -/
def four (w : World) : World := (((w.alloc (.cells (nodeC none ⟨#[]⟩ ⟨#[]⟩) 38)).alloc (.cells (nodeC (some ⟨w.heap.size, 0, none⟩) ⟨#[109]⟩ ⟨#[110]⟩) 38)).alloc (.cells (nodeC (some ⟨w.heap.size, 0, none⟩) ⟨#[109]⟩ ⟨#[111]⟩) 38)).alloc (.cells (instC (some ⟨w.heap.size, 0, none⟩) none ⟨#[]⟩) 46)

theorem four_bld (w W : World) (hb : Below (four w).heap.size (four w) W) (kid sch : Nat → Nat) : Bld w W W.heap.size (w.heap.size + 3) w.heap.size (w.heap.size + 1) (w.heap.size + 2) 0 kid sch (.slice none 0 0) := by
  have hs : (four w).heap.size = w.heap.size + 4 := by unfold four; simp
  have h0 : (four w).heap[w.heap.size]? = some (.cells (nodeC none ⟨#[]⟩ ⟨#[]⟩) 38 (0, 0)) := by
    unfold four
    exact (Below.heap_alloc _ _ _ (by simp; omega)).trans ((Below.heap_alloc _ _ _ (by simp; omega)).trans ((Below.heap_alloc _ _ _ (by simp)).trans (World.alloc_heap_new w _)))
  have h1 : (four w).heap[w.heap.size + 1]? = some (.cells (nodeC (some ⟨w.heap.size, 0, none⟩) ⟨#[109]⟩ ⟨#[110]⟩) 38 (0, 0)) := by
    unfold four
    have h := World.alloc_heap_new (w.alloc (.cells (nodeC none ⟨#[]⟩ ⟨#[]⟩) 38)) (.cells (nodeC (some ⟨w.heap.size, 0, none⟩) ⟨#[109]⟩ ⟨#[110]⟩) 38)
    rw [World.size_alloc] at h
    exact (Below.heap_alloc _ _ _ (by simp)).trans ((Below.heap_alloc _ _ _ (by simp)).trans h)
  have h2 : (four w).heap[w.heap.size + 2]? = some (.cells (nodeC (some ⟨w.heap.size, 0, none⟩) ⟨#[109]⟩ ⟨#[111]⟩) 38 (0, 0)) := by
    unfold four
    have h := World.alloc_heap_new ((w.alloc (.cells (nodeC none ⟨#[]⟩ ⟨#[]⟩) 38)).alloc (.cells (nodeC (some ⟨w.heap.size, 0, none⟩) ⟨#[109]⟩ ⟨#[110]⟩) 38)) (.cells (nodeC (some ⟨w.heap.size, 0, none⟩) ⟨#[109]⟩ ⟨#[111]⟩) 38)
    rw [World.size_alloc, World.size_alloc] at h
    exact (Below.heap_alloc _ _ _ (by simp)).trans h
  have h3 : (four w).heap[w.heap.size + 3]? = some (.cells (instC (some ⟨w.heap.size, 0, none⟩) none ⟨#[]⟩) 46 (0, 0)) := by
    unfold four
    have h := World.alloc_heap_new (((w.alloc (.cells (nodeC none ⟨#[]⟩ ⟨#[]⟩) 38)).alloc (.cells (nodeC (some ⟨w.heap.size, 0, none⟩) ⟨#[109]⟩ ⟨#[110]⟩) 38)).alloc (.cells (nodeC (some ⟨w.heap.size, 0, none⟩) ⟨#[109]⟩ ⟨#[111]⟩) 38)) (.cells (instC (some ⟨w.heap.size, 0, none⟩) none ⟨#[]⟩) 46)
    rw [World.size_alloc, World.size_alloc, World.size_alloc] at h
    exact h
  have g0 := (hb.block _ (by omega)).trans h0
  have g1 := (hb.block _ (by omega)).trans h1
  have g2 := (hb.block _ (by omega)).trans h2
  have g3 := (hb.block _ (by omega)).trans h3
  have hsW := hb.size
  have hw4 : Below w.heap.size w (four w) := by
    unfold four
    exact ((((Below.refl _ _).alloc (Nat.le_refl _) _).alloc (by simp) _).alloc (by simp; omega) _).alloc (by simp; omega) _
  refine ⟨?_, ?_, ?_, ?_, ?_, World.ownsRow_nil _ _ _ _, (fun j hj => by omega), (fun j hj => by omega), (fun j hj => by omega), ?_, ?_, ⟨_, _, g1⟩, ⟨_, _, g2⟩, Nat.le_refl _, by omega, hw4.trans (hb.mono (by omega))⟩
  · unfold World.cell?; rw [g3]; rfl
  · unfold World.cell?; rw [g3]; rfl
  · unfold World.cell?; rw [g3]; rfl
  · unfold World.frozen?; rw [g3]; simp
  · unfold World.frozen?; rw [g3]; simp
  · unfold World.cell?; rw [g1]; rfl
  · unfold World.cell?; rw [g0]; rfl

end Go.Proofs.YbulkavwiDoor
