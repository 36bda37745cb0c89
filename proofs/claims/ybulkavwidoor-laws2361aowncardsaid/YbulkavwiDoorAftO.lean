/-
  index with the one key, over the tree that the law has built.
-/
import Derived.Test.YbulkavwiDoorCheck
import Derived.Test.YbulkavwiDoorIdxO
namespace Go.Proofs.YbulkavwiDoor
open Go.RowKit
set_option linter.unusedSimpArgs false
set_option linter.unusedVariables false

theorem Ybad.info9 : (Ybad.prog.info? 9).map (fun i => (i.zero, i.size, i.bytes)) = some (some (.string ⟨#[]⟩), 1, 16) := by kernel_rfl
theorem Ybad.info4 : (Ybad.prog.info? 4).map (fun i => (i.zero, i.size, i.bytes)) = some (some (.bool false), 1, 1) := by kernel_rfl

/-- The text that stands in an instance. -/
def valAt (w : World) (x : Nat) : ByteArray := match w.cell? ⟨x, 4, none⟩ with | some (.string s) => s | _ => ⟨#[]⟩
theorem valAt_of {w : World} {x : Nat} {s : ByteArray} (h : w.cell? ⟨x, 4, none⟩ = some (.string s)) : valAt w x = s := by
  unfold valAt
  rw [h]

/-- What stands behind the loops. -/
def StoodO (w wr : World) (B pb nb mb gs gt gk na vn : Nat) (ca : Option Addr) (cc : Nat) (kid sch : Nat → Nat) (chv : Value) (S : Nat → ByteArray) : Prop :=
  Tree wr pb nb mb ca (na + vn) cc na kid sch ∧ (∀ g, ca = some ⟨g, 0, none⟩ → g < wr.heap.size ∧ g ≠ pb) ∧ Bld w wr B pb w.heap.size nb mb (na + vn) kid sch chv ∧ RowAt wr gs 39 vn (fun j => encP (kid (na + j))) ∧ RowAt wr gt 9 vn (fun j => .string (S j)) ∧ RowAt wr gk 4 vn (fun _ => .bool true) ∧
    ∀ j, j < vn → wr.cell? ⟨kid (na + j), 4, none⟩ = some (.string (S j))

theorem after_own (w wr W : World) (B pb nb mb gs gt gk na vn cc eb ib cl : Nat) (ca : Option Addr) (kid sch : Nat → Nat) (chv : Value) (S : Nat → ByteArray) (hT : StoodO w wr B pb nb mb gs gt gk na vn ca cc kid sch chv S) (z1 : w.heap.size < nb) (z2 : nb < mb) (z3 : mb < pb) (z4 : pb < gs) (z5 : gs < gt) (z6 : gt < gk)
    (he : W.cell? ⟨eb, 3, none⟩ = some (.map (some ib))) (hi : W.heap[ib]? = some (.map #[] cl)) (hbW : Below wr.heap.size wr W) (h1 : wr.heap.size ≤ ib) (h2 : wr.heap.size ≤ eb) (h3 : eb ≠ ib) :
    Calls Ybad.prog 7 #[.pointer (some ⟨eb, 0, none⟩), .pointer (some ⟨pb, 0, none⟩), .pointer (some ⟨nb, 0, none⟩), .slice (some ⟨W.heap.size, 0, none⟩) 1 1] (W.alloc (.cells #[.pointer (some ⟨nb, 0, none⟩)] 23)) fun e W' => ∃ bm BB, e = .returned (.map (some bm)) ∧
      Grp W' bm BB (valAt wr) (pr (fun j => kid (na + j)) vn) ∧ Reads W' gs gt gk vn (fun j => kid (na + j)) (valAt wr) ∧ Below w.heap.size w W' := by
  obtain ⟨ht, hgp, hb, hr, hrt, hrk, hval⟩ := hT
  have lp : pb < wr.heap.size := Nat.lt_of_lt_of_le hb.lp hb.size
  have lgs := hr.lt
  have lgt := hrt.lt
  have lgk := hrk.lt
  have leb := cell_lt he
  have lib := (Array.getElem?_eq_some_iff.1 hi).1
  have hsz := hbW.size
  have hws := hb.below.size
  have hA : Below W.heap.size W (W.alloc (.cells #[.pointer (some ⟨nb, 0, none⟩)] 23)) := (Below.refl _ _).alloc (Nat.le_refl _) _
  have hbA : Below wr.heap.size wr (W.alloc (.cells #[.pointer (some ⟨nb, 0, none⟩)] 23)) := hbW.trans (hA.mono hsz)
  have hk : (W.alloc (.cells #[.pointer (some ⟨nb, 0, none⟩)] 23)).cell? ⟨W.heap.size, 0, none⟩ = some (.pointer (some ⟨nb, 0, none⟩)) := by
    have h := World.alloc_heap_new W (.cells #[.pointer (some ⟨nb, 0, none⟩)] 23)
    unfold World.cell?
    rw [h]
    rfl
  have hsA : (W.alloc (.cells #[.pointer (some ⟨nb, 0, none⟩)] 23)).heap.size = W.heap.size + 1 := World.size_alloc _ _
  refine (index_own eb ib cl pb nb w.heap.size mb (na + vn) cc na W.heap.size ca kid sch (valAt wr) _ (ht.grown hbA) ((hbA.cell (p := ⟨pb, 3, none⟩) lp).trans hb.c3) ((hbA.frozen (p := ⟨pb, 3, none⟩) lp).trans hb.f3) (by omega) (by omega) (fun g hg => by have := hgp g hg; omega)
    ((hbA.cell (p := ⟨pb, 0, none⟩) lp).trans hb.c0) ((hbA.cell (p := ⟨nb, 5, none⟩) (cell_lt hb.n5)).trans hb.n5) ((hbA.cell (p := ⟨w.heap.size, 5, none⟩) (cell_lt hb.r5)).trans hb.r5) ((hA.cell (p := ⟨eb, 3, none⟩) leb).trans he) ((hA.block ib lib).trans hi) (by omega) hk (by omega) ?_).mono ?_
  · intro j hj1 hj2
    have hv := hval (j - na) (by omega)
    rw [show na + (j - na) = j by omega] at hv
    have hg := hb.ge j hj2
    have := hb.lp
    exact ⟨by rw [valAt_of hv]; exact (hbA.cell (p := ⟨kid j, 4, none⟩) (cell_lt hv)).trans hv, by omega⟩
  rintro e W' ⟨bm, BB, rfl, hbm, hbB, hG, hK⟩
  rw [Nat.add_sub_cancel_left] at hG
  refine ⟨bm, BB, rfl, hG, fun j hj => ?_, hK.below (hb.below.trans (hbA.mono hws)) (Nat.le_refl _) (by omega) (by omega)⟩
  refine ⟨(hK.cell (b := gs) (by omega) (by omega) (by omega) j).trans ((hbA.cell (p := ⟨gs, j, none⟩) lgs).trans (hr.cell j hj)), ?_, (hK.cell (b := gk) (by omega) (by omega) (by omega) j).trans ((hbA.cell (p := ⟨gk, j, none⟩) lgk).trans (hrk.cell j hj))⟩
  simp only [valAt_of (hval j hj)]
  exact (hK.cell (b := gt) (by omega) (by omega) (by omega) j).trans ((hbA.cell (p := ⟨gt, j, none⟩) lgt).trans (hrt.cell j hj))

end Go.Proofs.YbulkavwiDoor
