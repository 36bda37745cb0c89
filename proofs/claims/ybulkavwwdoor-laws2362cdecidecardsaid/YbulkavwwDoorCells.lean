/-
  Rows of cells in a block: filled one struct after another; what stores elsewhere and new blocks leave.
-/
import Derived.Test.YbulkavwwDoorSmall
namespace Go.Proofs.YbulkavwwDoor
open Go.RowKit

/-- m cells of block g hold f, none of them frozen. -/
def Cells (w : World) (g m : Nat) (f : Nat → Value) : Prop := ∀ j, j < m → w.cell? ⟨g, j, none⟩ = some (f j) ∧ w.frozen? ⟨g, j, none⟩ = false

theorem Cells.below {w w' : World} {g m : Nat} {f : Nat → Value} (h : Cells w g m f) (hg : g < w.heap.size) (hb : Below w.heap.size w w') : Cells w' g m f := fun j hj => by
  obtain ⟨h1, h2⟩ := h j hj
  exact ⟨(hb.cell (p := ⟨g, j, none⟩) hg).trans h1, (hb.frozen (p := ⟨g, j, none⟩) hg).trans h2⟩

theorem Cells.set {w : World} {g m i : Nat} {f : Nat → Value} (h : Cells w g m f) (hi : i < m) (v : Value) : Cells (w.setCell ⟨g, i, none⟩ v) g m (fun j => if j = i then v else f j) := fun j hj => by
  obtain ⟨h1, h2⟩ := h j hj
  obtain ⟨h3, -⟩ := h i hi
  refine ⟨?_, by rw [World.frozen?_setCell]; exact h2⟩
  by_cases e : j = i
  · subst e
    rw [World.cell?_setCell_same _ _ _ h3]
    simp
  · rw [World.cell?_setCell_other _ _ _ _ (fun hh => e (Addr.mk.inj hh).2.1.symm), h1]
    simp [e]

theorem Cells.other {w : World} {g m : Nat} {f : Nat → Value} (h : Cells w g m f) (a : Addr) (ha : a.block ≠ g) (v : Value) : Cells (w.setCell a v) g m f := fun j hj => by
  obtain ⟨h1, h2⟩ := h j hj
  refine ⟨?_, by rw [World.frozen?_setCell]; exact h2⟩
  rw [World.cell?_setCell_other _ _ _ _ (fun hh => ha (by rw [hh])), h1]

theorem Cells.alloc {w : World} {g m : Nat} {f : Nat → Value} (h : Cells w g m f) (hg : g < w.heap.size) (o : Obj) : Cells (w.alloc o) g m f :=
  h.below hg ((Below.refl _ _).alloc (Nat.le_refl _) o)

/-- A slice that the call has made: its cells are there. -/
theorem cells_of_owns {w : World} {base e size g n c : Nat} {xs : List Value} (h : w.ownsRow base e size (.slice (some ⟨g, 0, none⟩) n c) n xs) : g < w.heap.size ∧ ∃ f, Cells w g (n * size) f := by
  rcases h.2 with ⟨hv, -⟩ | ⟨g', cap, cur, hv, hb, hg, hn, hm, hs, ht⟩
  · cases hv
  · cases hv
    have hlt : g < w.heap.size := (Array.getElem?_eq_some_iff.1 hg).1
    refine ⟨hlt, fun j => cur.getD j (.bool false), fun j hj => ?_⟩
    have hj2 : j < cur.size := by
      have : n * size ≤ c * size := Nat.mul_le_mul_right _ hn
      omega
    constructor
    · rw [cell_of_row w g j cur e (0, 0) hg, Array.getElem?_eq_getElem hj2]
      simp [Array.getD, hj2]
    · simp [World.frozen?, hg]

/-- The first i of n pairs are filled. -/
def Fill (w : World) (g n i : Nat) (A B : Nat → Int) : Prop := ∃ f, Cells w g (n * 2) f ∧ ∀ k, k < i → f (k * 2) = .int .i64 (A k) ∧ f (k * 2 + 1) = .int .i64 (B k)

theorem Fill.zero {w : World} {g n : Nat} {f : Nat → Value} (h : Cells w g (n * 2) f) (A B : Nat → Int) : Fill w g n 0 A B := ⟨f, h, fun k hk => by omega⟩

theorem Fill.below {w w' : World} {g n i : Nat} {A B : Nat → Int} (h : Fill w g n i A B) (hg : g < w.heap.size) (hb : Below w.heap.size w w') : Fill w' g n i A B := by
  obtain ⟨f, hf, hk⟩ := h
  exact ⟨f, hf.below hg hb, hk⟩

theorem Fill.other {w : World} {g n i : Nat} {A B : Nat → Int} (h : Fill w g n i A B) (a : Addr) (ha : a.block ≠ g) (v : Value) : Fill (w.setCell a v) g n i A B := by
  obtain ⟨f, hf, hk⟩ := h
  exact ⟨f, hf.other a ha v, hk⟩

theorem Fill.alloc {w : World} {g n i : Nat} {A B : Nat → Int} (h : Fill w g n i A B) (hg : g < w.heap.size) (o : Obj) : Fill (w.alloc o) g n i A B :=
  h.below hg ((Below.refl _ _).alloc (Nat.le_refl _) o)

theorem Fill.step {w : World} {g n i : Nat} {A B : Nat → Int} (h : Fill w g n i A B) (hi : i < n) :
    Fill ((w.setCell ⟨g, i * 2, none⟩ (.int .i64 (A i))).setCell ⟨g, i * 2 + 1, none⟩ (.int .i64 (B i))) g n (i + 1) A B := by
  obtain ⟨f, hf, hk⟩ := h
  refine ⟨_, (hf.set (by omega) _).set (by omega) _, fun k hk' => ?_⟩
  by_cases e : k = i
  · subst e
    simp
  · have h1 : k < i := by omega
    obtain ⟨r1, r2⟩ := hk k h1
    have n1 : ¬ k * 2 = i * 2 + 1 := by omega
    have n2 : ¬ k * 2 = i * 2 := by omega
    have n3 : ¬ k * 2 + 1 = i * 2 + 1 := by omega
    have n4 : ¬ k * 2 + 1 = i * 2 := by omega
    simp only [n1, n2, n3, n4, if_false]
    exact ⟨r1, r2⟩

theorem Fill.there {w : World} {g n i : Nat} {A B : Nat → Int} (h : Fill w g n i A B) (k : Nat) (hk : k < n) :
    (∃ u, w.cell? ⟨g, k * 2, none⟩ = some u) ∧ (∃ u, w.cell? ⟨g, k * 2 + 1, none⟩ = some u) ∧ w.frozen? ⟨g, k * 2, none⟩ = false ∧ w.frozen? ⟨g, k * 2 + 1, none⟩ = false := by
  obtain ⟨f, hf, -⟩ := h
  obtain ⟨a1, a2⟩ := hf (k * 2) (by omega)
  obtain ⟨b1, b2⟩ := hf (k * 2 + 1) (by omega)
  exact ⟨⟨_, a1⟩, ⟨_, b1⟩, a2, b2⟩

theorem Fill.get {w : World} {g n i : Nat} {A B : Nat → Int} (h : Fill w g n i A B) (k : Nat) (hk : k < i) (hn : i ≤ n) :
    w.cell? ⟨g, k * 2, none⟩ = some (.int .i64 (A k)) ∧ w.cell? ⟨g, k * 2 + 1, none⟩ = some (.int .i64 (B k)) := by
  obtain ⟨f, hf, hA⟩ := h
  obtain ⟨r1, r2⟩ := hA k hk
  exact ⟨r1 ▸ (hf (k * 2) (by omega)).1, r2 ▸ (hf (k * 2 + 1) (by omega)).1⟩

/-- The first i of n triples (a reach) are filled. -/
def Fill3 (w : World) (g n i : Nat) (A B : Nat → Int) (S : Nat → ByteArray) : Prop := ∃ f, Cells w g (n * 3) f ∧ ∀ k, k < i → f (k * 3) = .int .i64 (A k) ∧ f (k * 3 + 1) = .int .i64 (B k) ∧ f (k * 3 + 2) = .string (S k)

theorem Fill3.zero {w : World} {g n : Nat} {f : Nat → Value} (h : Cells w g (n * 3) f) (A B : Nat → Int) (S : Nat → ByteArray) : Fill3 w g n 0 A B S := ⟨f, h, fun k hk => by omega⟩

theorem Fill3.below {w w' : World} {g n i : Nat} {A B : Nat → Int} {S : Nat → ByteArray} (h : Fill3 w g n i A B S) (hg : g < w.heap.size) (hb : Below w.heap.size w w') : Fill3 w' g n i A B S := by
  obtain ⟨f, hf, hk⟩ := h
  exact ⟨f, hf.below hg hb, hk⟩

theorem Fill3.other {w : World} {g n i : Nat} {A B : Nat → Int} {S : Nat → ByteArray} (h : Fill3 w g n i A B S) (a : Addr) (ha : a.block ≠ g) (v : Value) : Fill3 (w.setCell a v) g n i A B S := by
  obtain ⟨f, hf, hk⟩ := h
  exact ⟨f, hf.other a ha v, hk⟩

theorem Fill3.alloc {w : World} {g n i : Nat} {A B : Nat → Int} {S : Nat → ByteArray} (h : Fill3 w g n i A B S) (hg : g < w.heap.size) (o : Obj) : Fill3 (w.alloc o) g n i A B S :=
  h.below hg ((Below.refl _ _).alloc (Nat.le_refl _) o)

theorem Fill3.step {w : World} {g n i : Nat} {A B : Nat → Int} {S : Nat → ByteArray} (h : Fill3 w g n i A B S) (hi : i < n) :
    Fill3 (((w.setCell ⟨g, i * 3, none⟩ (.int .i64 (A i))).setCell ⟨g, i * 3 + 1, none⟩ (.int .i64 (B i))).setCell ⟨g, i * 3 + 2, none⟩ (.string (S i))) g n (i + 1) A B S := by
  obtain ⟨f, hf, hk⟩ := h
  refine ⟨_, ((hf.set (by omega) _).set (by omega) _).set (by omega) _, fun k hk' => ?_⟩
  by_cases e : k = i
  · subst e
    simp
  · have h1 : k < i := by omega
    obtain ⟨r1, r2, r3⟩ := hk k h1
    have n1 : ¬ k * 3 = i * 3 := by omega
    have n2 : ¬ k * 3 = i * 3 + 1 := by omega
    have n3 : ¬ k * 3 = i * 3 + 2 := by omega
    have n4 : ¬ k * 3 + 1 = i * 3 := by omega
    have n5 : ¬ k * 3 + 1 = i * 3 + 1 := by omega
    have n6 : ¬ k * 3 + 1 = i * 3 + 2 := by omega
    have n7 : ¬ k * 3 + 2 = i * 3 := by omega
    have n8 : ¬ k * 3 + 2 = i * 3 + 1 := by omega
    have n9 : ¬ k * 3 + 2 = i * 3 + 2 := by omega
    simp only [n1, n2, n3, n4, n5, n6, n7, n8, n9, if_false]
    exact ⟨r1, r2, r3⟩

theorem Fill3.there {w : World} {g n i : Nat} {A B : Nat → Int} {S : Nat → ByteArray} (h : Fill3 w g n i A B S) (k : Nat) (hk : k < n) :
    (∃ u, w.cell? ⟨g, k * 3, none⟩ = some u) ∧ (∃ u, w.cell? ⟨g, k * 3 + 1, none⟩ = some u) ∧ (∃ u, w.cell? ⟨g, k * 3 + 2, none⟩ = some u) ∧ w.frozen? ⟨g, k * 3, none⟩ = false ∧ w.frozen? ⟨g, k * 3 + 1, none⟩ = false ∧ w.frozen? ⟨g, k * 3 + 2, none⟩ = false := by
  obtain ⟨f, hf, -⟩ := h
  obtain ⟨a1, a2⟩ := hf (k * 3) (by omega)
  obtain ⟨b1, b2⟩ := hf (k * 3 + 1) (by omega)
  obtain ⟨c1, c2⟩ := hf (k * 3 + 2) (by omega)
  exact ⟨⟨_, a1⟩, ⟨_, b1⟩, ⟨_, c1⟩, a2, b2, c2⟩

theorem Fill3.get {w : World} {g n i : Nat} {A B : Nat → Int} {S : Nat → ByteArray} (h : Fill3 w g n i A B S) (k : Nat) (hk : k < i) (hn : i ≤ n) :
    w.cell? ⟨g, k * 3, none⟩ = some (.int .i64 (A k)) ∧ w.cell? ⟨g, k * 3 + 1, none⟩ = some (.int .i64 (B k)) ∧ w.cell? ⟨g, k * 3 + 2, none⟩ = some (.string (S k)) := by
  obtain ⟨f, hf, hA⟩ := h
  obtain ⟨r1, r2, r3⟩ := hA k hk
  exact ⟨r1 ▸ (hf (k * 3) (by omega)).1, r2 ▸ (hf (k * 3 + 1) (by omega)).1, r3 ▸ (hf (k * 3 + 2) (by omega)).1⟩

end Go.Proofs.YbulkavwwDoor
