/-
  The rows that the laws make; the tree that stands when the loops are done.
-/
import Derived.Test.YbulkavwiDoorFour
namespace Go.Proofs.YbulkavwiDoor
open Go.RowKit
set_option linter.unusedSimpArgs false
set_option linter.unusedVariables false

/-- A block of n cells f 0, f 1, .. -/
def RowAt (w : World) (g e n : Nat) (f : Nat → Value) : Prop := ∃ cur, w.heap[g]? = some (.cells cur e (0, 0)) ∧ ∀ j, j < n → cur[j]? = some (f j)

theorem RowAt.cell {w : World} {g e n : Nat} {f : Nat → Value} (h : RowAt w g e n f) (j : Nat) (hj : j < n) : w.cell? ⟨g, j, none⟩ = some (f j) := by
  obtain ⟨cur, h1, h2⟩ := h
  unfold World.cell?
  rw [h1]
  simpa using h2 j hj
theorem RowAt.frozen {w : World} {g e n : Nat} {f : Nat → Value} (h : RowAt w g e n f) (j : Nat) : w.frozen? ⟨g, j, none⟩ = false := by
  obtain ⟨cur, h1, h2⟩ := h
  unfold World.frozen?
  rw [h1]
  simp
theorem RowAt.lt {w : World} {g e n : Nat} {f : Nat → Value} (h : RowAt w g e n f) : g < w.heap.size := by
  obtain ⟨cur, h1, h2⟩ := h
  exact (Array.getElem?_eq_some_iff.1 h1).1
theorem RowAt.kept {w w' : World} {g e n : Nat} {f : Nat → Value} (h : RowAt w g e n f) (he : w'.heap[g]? = w.heap[g]?) : RowAt w' g e n f := by
  obtain ⟨cur, h1, h2⟩ := h
  exact ⟨cur, he.trans h1, h2⟩
theorem RowAt.congr {w : World} {g e n : Nat} {f f' : Nat → Value} (h : RowAt w g e n f) (he : ∀ j, j < n → f j = f' j) : RowAt w g e n f' := by
  obtain ⟨cur, h1, h2⟩ := h
  exact ⟨cur, h1, fun j hj => (h2 j hj).trans (by rw [he j hj])⟩
theorem RowAt.set {w : World} {g e n : Nat} {f : Nat → Value} (h : RowAt w g e n f) (i : Nat) (v : Value) : RowAt (w.setCell ⟨g, i, none⟩ v) g e n (fun j => if j = i then v else f j) := by
  obtain ⟨cur, h1, h2⟩ := h
  refine ⟨cur.setIfInBounds i v, ?_, fun j hj => ?_⟩
  · simp [World.setCell, Array.getElem?_modify, h1]
  · have h3 := h2 j hj
    have lj := (Array.getElem?_eq_some_iff.1 h3).1
    by_cases e : j = i
    · subst e
      simp [lj]
    · simp only [e, if_false]
      rw [Array.getElem?_setIfInBounds_ne (by omega)]
      exact h3
theorem RowAt.of_owns {w : World} {g e n c base : Nat} {xs : List Value} {f : Nat → Value} (h : w.ownsRow base e 1 (.slice (some ⟨g, 0, none⟩) n c) n xs) (hx : ∀ j, j < n → xs[j]? = some (f j)) : RowAt w g e n f := by
  rcases h.2 with ⟨e', _⟩ | ⟨g', cap, cur, e', _, hg, _, _, _, ht⟩
  · cases e'
  · obtain rfl : g' = g := (Addr.mk.inj (Option.some.inj (Value.slice.inj e').1)).1.symm
    refine ⟨cur, hg, fun j hj => ?_⟩
    have h1 := hx j hj
    rw [← ht, List.getElem?_take, if_pos (by omega)] at h1
    simpa using h1

/-- A store into a row of the law's own. -/
theorem Bld.store {w wr : World} {B pb rb nb mb k : Nat} {kid sch : Nat → Nat} {chv : Value} (b : Bld w wr B pb rb nb mb k kid sch chv) (g i : Nat) (v : Value) (hg : g < B) (hp : g ≠ pb) (hr : g ≠ rb) (hn : g ≠ nb) (hm : g ≠ mb) (hw : w.heap.size ≤ g) :
    Bld w (wr.setCell ⟨g, i, none⟩ v) B pb rb nb mb k kid sch chv := by
  have far : ∀ q j, q ≠ g → (wr.setCell ⟨g, i, none⟩ v).cell? ⟨q, j, none⟩ = wr.cell? ⟨q, j, none⟩ := fun q j h => World.cell?_setCell_other _ _ _ _ (fun hh => h (Addr.mk.inj hh).1.symm)
  have gbs := gb_set wr g i v
  have hp2 : ∀ q, q ≠ g → q < wr.heap.size → (wr.setCell ⟨g, i, none⟩ v).heap[q]? = wr.heap[q]? := fun q h hl => gbs.block q hl (fun e => h (Option.some.inj e))
  refine ⟨(far pb 0 (Ne.symm hp)).trans b.c0, (far pb 2 (Ne.symm hp)).trans b.c2, (far pb 3 (Ne.symm hp)).trans b.c3, by rw [World.frozen?_setCell]; exact b.f2, by rw [World.frozen?_setCell]; exact b.f3, ?row, ?kids, ?typ, b.ge,
    (far nb 5 (Ne.symm hn)).trans b.n5, (far rb 5 (Ne.symm hr)).trans b.r5, ?wn, ?wm, by rw [World.size_setCell]; exact b.size, b.lp, Below.setCell (p := ⟨g, i, none⟩) b.below hw _⟩
  case row =>
    refine b.row.kept gbs ?_
    rcases b.row.2 with ⟨e, _⟩ | ⟨g', cap, cur, e, hb, _⟩
    · exact .inl (by rw [e]; rfl)
    · refine .inr (fun e' => ?_)
      rw [e] at e'
      have h : g' = g := Option.some.inj e'
      omega
  case kids =>
    intro j hj
    have := b.ge j hj
    exact (far (kid j) 0 (by omega)).trans (b.kids j hj)
  case typ =>
    intro j hj
    have := b.ge j hj
    obtain ⟨ca, hc⟩ := b.typ j hj
    exact ⟨ca, (hp2 (kid j) (by omega) (Array.getElem?_eq_some_iff.1 hc).1).trans hc⟩
  case wn =>
    obtain ⟨c1, t1, h1⟩ := b.wn
    exact ⟨c1, t1, (hp2 nb (Ne.symm hn) (Array.getElem?_eq_some_iff.1 h1).1).trans h1⟩
  case wm =>
    obtain ⟨c1, t1, h1⟩ := b.wm
    exact ⟨c1, t1, (hp2 mb (Ne.symm hm) (Array.getElem?_eq_some_iff.1 h1).1).trans h1⟩

/-- One instance more, in a region that draws its order. -/
theorem Bld.more {w V : World} {B pb rb nb mb k : Nat} {kid sch : Nat → Nat} {chv : Value} (b : Bld w V B pb rb nb mb k kid sch chv) (m : Nat) (s : ByteArray) (hk : k ≤ 4096) (hwp : w.heap.size ≤ pb) (hnp : nb ≠ pb) (hmp : mb ≠ pb) (hwB : w.heap.size ≤ B) (hnB : nb < B) (hrB : rb < B) (hmB : mb < B) :
    ∃ g' c' w', (Builtin.append_ #[40, 40] 40 #[chv, .slice (some ⟨V.heap.size + 1, 0, none⟩) 1 1]).run Ybad.prog ((V.alloc (.cells (instC (some ⟨m, 0, none⟩) (some ⟨pb, 0, none⟩) s) 46)).alloc (.cells #[.pointer (some ⟨V.heap.size, 0, none⟩)] 39)).drew = .ok (.slice (some ⟨g', 0, none⟩) (k + 1) c') w' ∧
      w'.cell? ⟨pb, 2, none⟩ = some chv ∧ w'.frozen? ⟨pb, 2, none⟩ = false ∧
      Bld w (w'.setCell ⟨pb, 2, none⟩ (.slice (some ⟨g', 0, none⟩) (k + 1) c')) B pb rb nb mb (k + 1) (fun j => if j = k then V.heap.size else kid j) (fun j => if j = k then m else sch j) (.slice (some ⟨g', 0, none⟩) (k + 1) c') ∧
      (∀ q, q < B → q ≠ pb → (w'.setCell ⟨pb, 2, none⟩ (.slice (some ⟨g', 0, none⟩) (k + 1) c')).heap[q]? = V.heap[q]?) ∧
      (∀ q ca, q ≠ pb → V.heap[q]? = some (.cells ca 46 (0, 0)) → (w'.setCell ⟨pb, 2, none⟩ (.slice (some ⟨g', 0, none⟩) (k + 1) c')).heap[q]? = V.heap[q]?) ∧
      (w'.setCell ⟨pb, 2, none⟩ (.slice (some ⟨g', 0, none⟩) (k + 1) c')).cell? ⟨V.heap.size, 4, none⟩ = some (.string s) := by
  have hI : Bld w (V.alloc (.cells (instC (some ⟨m, 0, none⟩) (some ⟨pb, 0, none⟩) s) 46)).drew B pb rb nb mb k kid sch chv := b.grown (((Below.refl _ _).alloc (Nat.le_refl _) _).drew)
  have hx : (V.alloc (.cells (instC (some ⟨m, 0, none⟩) (some ⟨pb, 0, none⟩) s) 46)).drew.heap[V.heap.size]? = _ := World.alloc_heap_new V (.cells (instC (some ⟨m, 0, none⟩) (some ⟨pb, 0, none⟩) s) 46)
  have hxp : V.heap.size ≠ pb := by have := b.lp; have := b.size; omega
  obtain ⟨v', w', hrun, p2, pf2, ⟨g', c', rfl⟩, hsz', hb', hq', hq2⟩ := hI.push V.heap.size m (by unfold World.cell?; rw [hx]; rfl) ⟨_, hx⟩ b.size hk hwp hnp hmp hwB hnB hrB hmB
  have e : (V.alloc (.cells (instC (some ⟨m, 0, none⟩) (some ⟨pb, 0, none⟩) s) 46)).drew.heap.size = V.heap.size + 1 := World.size_alloc _ _
  rw [e] at hrun
  have ha : ∀ q, q < V.heap.size → (V.alloc (.cells (instC (some ⟨m, 0, none⟩) (some ⟨pb, 0, none⟩) s) 46)).drew.heap[q]? = V.heap[q]? := fun q hq => Below.heap_alloc _ _ _ hq
  refine ⟨g', c', w', hrun, p2, pf2, hb', (fun q hq hne => (hq' q hq hne).trans (ha q (Nat.lt_of_lt_of_le hq b.size))), (fun q cq hne hq => ?_), ?_⟩
  · have l := (Array.getElem?_eq_some_iff.1 hq).1
    exact (hq2 q cq hne ((ha q l).trans hq)).trans (ha q l)
  · unfold World.cell?
    rw [(hq2 V.heap.size _ hxp hx).trans hx]
    rfl

/-- The tree that stands. -/
theorem Bld.tree {w wr : World} {B pb rb nb mb n a : Nat} {kid sch : Nat → Nat} {chv : Value} (b : Bld w wr B pb rb nb mb n kid sch chv) (hn : n ≤ 2048) (ha : a ≤ n) (hne : mb ≠ nb) (sm : ∀ k, k < a → sch k = mb) (sn : ∀ k, a ≤ k → k < n → sch k = nb) :
    ∃ ca c, Tree wr pb nb mb ca n c a kid sch ∧ ∀ g, ca = some ⟨g, 0, none⟩ → g < wr.heap.size ∧ g ≠ pb := by
  rcases b.row.2 with ⟨e, e0⟩ | ⟨g, cap, cur, e, hg, hgb, hc, hm, _, ht⟩
  · subst e0
    have c2 := b.c2
    rw [e] at c2
    exact ⟨none, 0, ⟨by omega, Nat.le_refl _, by unfold maxLen; omega, ha, (fun g h => by cases h), (fun h => by omega), c2, hne, b.wm, b.wn, sm, sn⟩, fun g h => by cases h⟩
  · have c2 := b.c2
    rw [e] at c2
    have lp := b.lp
    refine ⟨some ⟨g, 0, none⟩, cap, ⟨hn, hc, hm, ha, ?_, (fun _ => ⟨g, rfl⟩), c2, hne, b.wm, b.wn, sm, sn⟩, fun g' h => ?_⟩
    · intro g' h
      obtain rfl : g' = g := (Addr.mk.inj (Option.some.inj h)).1.symm
      intro k hk
      refine ⟨?_, b.kids k hk⟩
      have h1 : ((List.range n).map fun j => encP (kid j))[k]? = some (encP (kid k)) := by simp [hk]
      rw [← ht, List.getElem?_take, if_pos (by omega)] at h1
      unfold World.cell?
      rw [hgb]
      simpa [encP] using h1
    · obtain rfl : g' = g := (Addr.mk.inj (Option.some.inj h)).1.symm
      exact ⟨(Array.getElem?_eq_some_iff.1 hgb).1, by omega⟩

end Go.Proofs.YbulkavwiDoor
