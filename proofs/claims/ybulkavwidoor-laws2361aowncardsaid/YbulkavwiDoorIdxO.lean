/-
  index, with the one key n.
-/
import Derived.Test.YbulkavwiDoorIdxA
import Derived.Test.YbulkavwiDoorBy
import Derived.Test.YbulkavwiDoorR16
namespace Go.Proofs.YbulkavwiDoor
open Go.RowKit Go.Shelf
set_option linter.unusedSimpArgs false
set_option linter.unusedVariables false
attribute [local go_sem] Oper.semAt_some
attribute [-go_sem] Builtin.append_

set_option maxRecDepth 100000 in
set_option maxHeartbeats 4000000 in
theorem index_own (eb ib cl0 pb nb rb mb n c a kb : Nat) (ca : Option Addr) (kid sch : Nat → Nat) (κ : Nat → ByteArray) (w : World) (t : Tree w pb nb mb ca n c a kid sch)
    (h3 : w.cell? ⟨pb, 3, none⟩ = some (.map none)) (f3 : w.frozen? ⟨pb, 3, none⟩ = false) (hmp : mb ≠ pb) (hnp : nb ≠ pb) (hgp : ∀ g, ca = some ⟨g, 0, none⟩ → g < w.heap.size ∧ g ≠ pb)
    (h0 : w.cell? ⟨pb, 0, none⟩ = some (.pointer (some ⟨rb, 0, none⟩))) (hn : w.cell? ⟨nb, 5, none⟩ = some (.pointer (some ⟨rb, 0, none⟩))) (hr : w.cell? ⟨rb, 5, none⟩ = some (.pointer none))
    (he : w.cell? ⟨eb, 3, none⟩ = some (.map (some ib))) (hi : w.heap[ib]? = some (.map #[] cl0)) (hep : eb ≠ pb)
    (hk : w.cell? ⟨kb, 0, none⟩ = some (.pointer (some ⟨nb, 0, none⟩))) (hkp : kb ≠ pb)
    (hκ : ∀ j, a ≤ j → j < n → w.cell? ⟨kid j, 4, none⟩ = some (.string (κ (kid j))) ∧ kid j ≠ pb) :
    Calls Ybad.prog 7 #[.pointer (some ⟨eb, 0, none⟩), .pointer (some ⟨pb, 0, none⟩), .pointer (some ⟨nb, 0, none⟩), .slice (some ⟨kb, 0, none⟩) 1 1] w fun e w' => ∃ bm B, e = .returned (.map (some bm)) ∧ w.heap.size ≤ bm ∧ bm < B ∧ Grp w' bm B κ (upto kid a (n - a)) ∧ Kept w w' pb ib := by
  have mm := @run_makeMap Ybad.prog
  have li := (Array.getElem?_eq_some_iff.1 hi).1
  have le := cell_lt he
  have lk := cell_lt hk
  refine (callsIn_wide (n := 8)).1 ?_
  refine callsIn_of_wp_marks Ybad.func7 rfl trivial ?_ rfl
  simp only [Ybad.ntmps7, List.size_toArray, List.length_cons, List.length_nil, Nat.reduceAdd, Nat.reduceSub, Array.replicate_succ, Array.replicate_zero, List.push_toArray, List.append_toArray, List.nil_append, List.cons_append]
  gi_wp2_with fail
  have B0 : Below w.heap.size w (((w.alloc (.cells #[.pointer (some ⟨nb, 0, none⟩)] 23)).alloc (.cells #[.slice (some ⟨kb, 0, none⟩) 1 1] 26)).alloc (.cells #[.pointer (some ⟨pb, 0, none⟩), .pointer (some ⟨nb, 0, none⟩), .pointer none, .string ⟨#[]⟩] 62)) :=
    (((Below.refl _ _).alloc (Nat.le_refl _) _).alloc (by simp) _).alloc (by simp; omega) _
  have z6 : (((w.alloc (.cells #[.pointer (some ⟨nb, 0, none⟩)] 23)).alloc (.cells #[.slice (some ⟨kb, 0, none⟩) 1 1] 26)).alloc (.cells #[.pointer (some ⟨pb, 0, none⟩), .pointer (some ⟨nb, 0, none⟩), .pointer none, .string ⟨#[]⟩] 62)).cell? ⟨w.heap.size, 0, none⟩ = some (.pointer (some ⟨nb, 0, none⟩)) := by go_simp
  have z7 : (((w.alloc (.cells #[.pointer (some ⟨nb, 0, none⟩)] 23)).alloc (.cells #[.slice (some ⟨kb, 0, none⟩) 1 1] 26)).alloc (.cells #[.pointer (some ⟨pb, 0, none⟩), .pointer (some ⟨nb, 0, none⟩), .pointer none, .string ⟨#[]⟩] 62)).cell? ⟨w.heap.size + 1, 0, none⟩ = some (.slice (some ⟨kb, 0, none⟩) 1 1) := by go_simp
  have sz : (((w.alloc (.cells #[.pointer (some ⟨nb, 0, none⟩)] 23)).alloc (.cells #[.slice (some ⟨kb, 0, none⟩) 1 1] 26)).alloc (.cells #[.pointer (some ⟨pb, 0, none⟩), .pointer (some ⟨nb, 0, none⟩), .pointer none, .string ⟨#[]⟩] 62)).heap.size = w.heap.size + 3 := by simp
  have z8 : (((w.alloc (.cells #[.pointer (some ⟨nb, 0, none⟩)] 23)).alloc (.cells #[.slice (some ⟨kb, 0, none⟩) 1 1] 26)).alloc (.cells #[.pointer (some ⟨pb, 0, none⟩), .pointer (some ⟨nb, 0, none⟩), .pointer none, .string ⟨#[]⟩] 62)).heap[w.heap.size + 1 + 1]? = some (.cells #[.pointer (some ⟨pb, 0, none⟩), .pointer (some ⟨nb, 0, none⟩), .pointer none, .string ⟨#[]⟩] 62 (0, 0)) := by
    have h := World.alloc_heap_new ((w.alloc (.cells #[.pointer (some ⟨nb, 0, none⟩)] 23)).alloc (.cells #[.slice (some ⟨kb, 0, none⟩) 1 1] 26)) (.cells #[.pointer (some ⟨pb, 0, none⟩), .pointer (some ⟨nb, 0, none⟩), .pointer none, .string ⟨#[]⟩] 62)
    rw [World.size_alloc, World.size_alloc] at h
    exact h
  generalize (((w.alloc (.cells #[.pointer (some ⟨nb, 0, none⟩)] 23)).alloc (.cells #[.slice (some ⟨kb, 0, none⟩) 1 1] 26)).alloc (.cells #[.pointer (some ⟨pb, 0, none⟩), .pointer (some ⟨nb, 0, none⟩), .pointer none, .string ⟨#[]⟩] 62)) = V at *
  have zk := (B0.cell (p := ⟨kb, 0, none⟩) lk).trans hk
  have HV : Hid (Below w.heap.size w V ∧ V.cell? ⟨w.heap.size, 0, none⟩ = some (.pointer (some ⟨nb, 0, none⟩)) ∧ V.heap.size = w.heap.size + 3 ∧ V.heap[w.heap.size + 1 + 1]? = some (.cells #[.pointer (some ⟨pb, 0, none⟩), .pointer (some ⟨nb, 0, none⟩), .pointer none, .string ⟨#[]⟩] 62 (0, 0))) := ⟨B0, z6, sz, z8⟩
  have y2 : V.cell? ⟨w.heap.size + 1 + 1, 2, none⟩ = some (.pointer none) := by unfold World.cell?; rw [z8]; rfl
  have y3 : V.cell? ⟨w.heap.size + 1 + 1, 3, none⟩ = some (.string ⟨#[]⟩) := by unfold World.cell?; rw [z8]; rfl
  have f2 : V.frozen? ⟨w.heap.size + 1 + 1, 2, none⟩ = false := by unfold World.frozen?; rw [z8]; simp
  have f3 : V.frozen? ⟨w.heap.size + 1 + 1, 3, none⟩ = false := by unfold World.frozen?; rw [z8]; simp
  have lV : w.heap.size + 1 + 1 < V.heap.size := by omega
  have lk' : kb < V.heap.size := by omega
  have nk1 : kb ≠ w.heap.size + 1 + 1 := by omega
  have hfar : ∀ (W : World) (j : Nat) (u : Value), (W.setCell ⟨w.heap.size + 1 + 1, j, none⟩ u).cell? ⟨kb, 0, none⟩ = W.cell? ⟨kb, 0, none⟩ := fun W j u => World.cell?_setCell_far W _ _ u (Ne.symm nk1)
  clear B0 z6 z8 sz
  refine wpIn_wide.2 ?_
  go_region_held3 (fun w' => w'.cell? ⟨w.heap.size + 1, 0, none⟩ = some (.slice (some ⟨kb, 0, none⟩) 1 1) ∧ w'.cell? ⟨kb, 0, none⟩ = some (.pointer (some ⟨nb, 0, none⟩)))
    (first | exact ⟨z7, zk⟩ | go_keep) (first | (go_at_call 10; refine (by_nil _ _ _).mono ?_; rintro e w' ⟨rfl, hb⟩; have s2 := (hb.cell (p := ⟨w.heap.size + 1 + 1, 2, none⟩) lV).trans y2; have s3 := (hb.cell (p := ⟨w.heap.size + 1 + 1, 3, none⟩) lV).trans y3; have g2 := (hb.frozen (p := ⟨w.heap.size + 1 + 1, 2, none⟩) lV).trans f2; have g3 := (hb.frozen (p := ⟨w.heap.size + 1 + 1, 3, none⟩) lV).trans f3; have s7 := (hb.cell (p := ⟨w.heap.size + 1, 0, none⟩) (cell_lt z7)).trans z7; have sk := (hb.cell (p := ⟨kb, 0, none⟩) lk').trans zk; have HW : Hid (Below V.heap.size V w') := ⟨hb.os, hb.tape, hb.output, hb.size, hb.block⟩; clear hb))
  rename_i hHeld
  clear hHeld
  have z8' := (HW.out.block (w.heap.size + 1 + 1) lV).trans HV.out.2.2.2
  have y0' : w'.cell? ⟨w.heap.size + 1 + 1, 0, none⟩ = some (.pointer (some ⟨pb, 0, none⟩)) := by unfold World.cell?; rw [z8']; rfl
  have y1' : w'.cell? ⟨w.heap.size + 1 + 1, 1, none⟩ = some (.pointer (some ⟨nb, 0, none⟩)) := by unfold World.cell?; rw [z8']; rfl
  have z6' := (HW.out.cell (p := ⟨w.heap.size, 0, none⟩) (cell_lt HV.out.2.1)).trans HV.out.2.1
  have oth : ∀ (q j : Nat) (u1 u2 : Value), (q ≠ w.heap.size + 1 + 1 ∨ (j ≠ 2 ∧ j ≠ 3)) → ((w'.setCell ⟨w.heap.size + 1 + 1, 2, none⟩ u1).setCell ⟨w.heap.size + 1 + 1, 3, none⟩ u2).cell? ⟨q, j, none⟩ = w'.cell? ⟨q, j, none⟩ := fun q j u1 u2 hq =>
    (World.cell?_setCell_other _ _ _ _ (fun hh => by have := Addr.mk.inj hh; omega)).trans (World.cell?_setCell_other _ _ _ _ (fun hh => by have := Addr.mk.inj hh; omega))
  have z6 := (oth w.heap.size 0 (.pointer (some ⟨nb, 0, none⟩)) (.string ⟨#[]⟩) (.inl (by omega))).trans z6'
  have x7 := (oth (w.heap.size + 1) 0 (.pointer (some ⟨nb, 0, none⟩)) (.string ⟨#[]⟩) (.inl (by omega))).trans s7
  have xk := (oth kb 0 (.pointer (some ⟨nb, 0, none⟩)) (.string ⟨#[]⟩) (.inl nk1)).trans sk
  have y0 := (oth (w.heap.size + 1 + 1) 0 (.pointer (some ⟨nb, 0, none⟩)) (.string ⟨#[]⟩) (.inr (by decide))).trans y0'
  have y1 := (oth (w.heap.size + 1 + 1) 1 (.pointer (some ⟨nb, 0, none⟩)) (.string ⟨#[]⟩) (.inr (by decide))).trans y1'
  have x2 : ((w'.setCell ⟨w.heap.size + 1 + 1, 2, none⟩ (.pointer (some ⟨nb, 0, none⟩))).setCell ⟨w.heap.size + 1 + 1, 3, none⟩ (.string ⟨#[]⟩)).cell? ⟨w.heap.size + 1 + 1, 2, none⟩ = some (.pointer (some ⟨nb, 0, none⟩)) :=
    (World.cell?_setCell_other _ _ _ _ (fun hh => by have := Addr.mk.inj hh; omega)).trans (World.cell?_setCell_same _ _ _ s2)
  have x3 : ((w'.setCell ⟨w.heap.size + 1 + 1, 2, none⟩ (.pointer (some ⟨nb, 0, none⟩))).setCell ⟨w.heap.size + 1 + 1, 3, none⟩ (.string ⟨#[]⟩)).cell? ⟨w.heap.size + 1 + 1, 3, none⟩ = some (.string ⟨#[]⟩) :=
    World.cell?_setCell_same _ _ _ ((World.cell?_setCell_other _ _ _ _ (fun hh => by have := Addr.mk.inj hh; omega)).trans s3)
  have B0 : Below w.heap.size w ((w'.setCell ⟨w.heap.size + 1 + 1, 2, none⟩ (.pointer (some ⟨nb, 0, none⟩))).setCell ⟨w.heap.size + 1 + 1, 3, none⟩ (.string ⟨#[]⟩)) :=
    Below.setCell (p := ⟨w.heap.size + 1 + 1, 3, none⟩) (Below.setCell (p := ⟨w.heap.size + 1 + 1, 2, none⟩) (HV.out.1.trans (HW.out.mono HV.out.1.size)) (by show w.heap.size ≤ w.heap.size + 1 + 1; omega) _) (by show w.heap.size ≤ w.heap.size + 1 + 1; omega) _
  have sz' : w.heap.size + 3 ≤ ((w'.setCell ⟨w.heap.size + 1 + 1, 2, none⟩ (.pointer (some ⟨nb, 0, none⟩))).setCell ⟨w.heap.size + 1 + 1, 3, none⟩ (.string ⟨#[]⟩)).heap.size := by
    rw [World.size_setCell, World.size_setCell]
    have := HW.out.size
    have := HV.out.2.2.1
    omega
  clear y2 y3 f2 f3 lV lk' hfar s2 s3 g2 g3 s7 sk HW HV z8' y0' y1' z6' oth z7 zk
  generalize ((w'.setCell ⟨w.heap.size + 1 + 1, 2, none⟩ (.pointer (some ⟨nb, 0, none⟩))).setCell ⟨w.heap.size + 1 + 1, 3, none⟩ (.string ⟨#[]⟩)) = W0 at *
  clear w' V
  obtain ⟨M, sz⟩ : ∃ M, W0.heap.size = M := ⟨_, rfl⟩
  rw [sz] at sz'
  have ye := (B0.cell (p := ⟨eb, 3, none⟩) le).trans he
  have yi := (B0.block ib li).trans hi
  have q := lookup54_nil (w := W0.drew) pb nb (some ⟨nb, 0, none⟩) ⟨#[]⟩ yi
  unfold ik at q
  gi_wp2_with fail
  refine wpIn_wide.2 ?_
  go_region_held3 (fun w' => w'.cell? ⟨eb, 3, none⟩ = some (.map (some ib)) ∧ w'.cell? ⟨w.heap.size + 1 + 1, 0, none⟩ = some (.pointer (some ⟨pb, 0, none⟩)) ∧ w'.cell? ⟨w.heap.size + 1 + 1, 1, none⟩ = some (.pointer (some ⟨nb, 0, none⟩)) ∧ w'.cell? ⟨w.heap.size + 1 + 1, 2, none⟩ = some (.pointer (some ⟨nb, 0, none⟩)) ∧ w'.cell? ⟨w.heap.size + 1 + 1, 3, none⟩ = some (.string ⟨#[]⟩)) (first | exact ⟨ye, y0, y1, x2, x3⟩) (fail)
  have B1 : Below w.heap.size w ((W0.alloc (.map #[] 0)).alloc (.cells #[.map (some (M))] 49)).drew := ((B0.alloc B0.size _).alloc (by simp; omega) _).drew
  have m3 : ((W0.alloc (.map #[] 0)).alloc (.cells #[.map (some (M))] 49)).drew.heap[M]? = some (.map #[] 0) := by
    have h := World.alloc_heap_new W0 (.map #[] 0)
    rw [sz] at h
    exact (Below.heap_alloc _ _ _ (by simp; omega)).trans h
  have m4 : ((W0.alloc (.map #[] 0)).alloc (.cells #[.map (some (M))] 49)).drew.cell? ⟨M + 1, 0, none⟩ = some (.map (some (M))) := by
    show ((W0.alloc (.map #[] 0)).alloc (.cells #[.map (some (M))] 49)).cell? ⟨M + 1, 0, none⟩ = _
    have h := World.alloc_heap_new (W0.alloc (.map #[] 0)) (.cells #[.map (some (M))] 49)
    rw [World.size_alloc, sz] at h
    simp [World.cell?, h]
  have bb : Below W0.heap.size W0 ((W0.alloc (.map #[] 0)).alloc (.cells #[.map (some (M))] 49)).drew := (((Below.refl _ _).alloc (Nat.le_refl _) _).alloc (by simp) _).drew
  have m6 := (bb.cell (p := ⟨w.heap.size, 0, none⟩) (cell_lt z6)).trans z6
  have m7 := (bb.cell (p := ⟨w.heap.size + 1, 0, none⟩) (cell_lt x7)).trans x7
  have n0 := (bb.cell (p := ⟨w.heap.size + 1 + 1, 0, none⟩) (cell_lt y0)).trans y0
  have n1 := (bb.cell (p := ⟨w.heap.size + 1 + 1, 1, none⟩) (cell_lt y1)).trans y1
  have n2 := (bb.cell (p := ⟨w.heap.size + 1 + 1, 2, none⟩) (cell_lt x2)).trans x2
  have n3 := (bb.cell (p := ⟨w.heap.size + 1 + 1, 3, none⟩) (cell_lt x3)).trans x3
  have HB : Hid (Calls Ybad.prog 11 #[.pointer (some ⟨pb, 0, none⟩), .pointer (some ⟨nb, 0, none⟩)] ((W0.alloc (.map #[] 0)).alloc (.cells #[.map (some (M))] 49)).drew fun e w' => ∃ b1 b2 g c, e = .returned (.func (.func 18) #[] #[.pointer (some ⟨b1, 0, none⟩), .pointer (some ⟨b2, 0, none⟩)]) ∧
      w'.cell? ⟨b1, 0, none⟩ = some (.pointer (some ⟨pb, 0, none⟩)) ∧ w'.cell? ⟨b2, 0, none⟩ = some (.slice (some ⟨g, 0, none⟩) 1 c) ∧ w'.cell? ⟨g, 0, none⟩ = some (.pointer (some ⟨nb, 0, none⟩)) ∧ Below ((W0.alloc (.map #[] 0)).alloc (.cells #[.map (some (M))] 49)).drew.heap.size ((W0.alloc (.map #[] 0)).alloc (.cells #[.map (some (M))] 49)).drew w') :=
    below_any pb nb rb _ ((B1.cell (p := ⟨pb, 0, none⟩) (cell_lt h0)).trans h0) ((B1.cell (p := ⟨nb, 5, none⟩) (cell_lt hn)).trans hn) ((B1.cell (p := ⟨rb, 5, none⟩) (cell_lt hr)).trans hr)
  have HT : Hid (Tree w pb nb mb ca n c a kid sch) := t
  have HB1 : Hid (Below w.heap.size w ((W0.alloc (.map #[] 0)).alloc (.cells #[.map (some (M))] 49)).drew) := B1
  clear bb y0 y1 x2 x3 z6 x7 q t
  gi_wp2_with (refine ⟨trivial, ?_⟩; gi_at_call 11; refine (callsIn_wide.2 HB.out).mono ?_; clear HB; rintro e w1 ⟨b1, b2, gc, cc, rfl, k1, k2, k3, hb1⟩)
  have szc : ((W0.alloc (.map #[] 0)).alloc (.cells #[.map (some (M))] 49)).drew.heap.size = M + 2 := by show ((W0.alloc (.map #[] 0)).alloc _).heap.size = _; rw [World.size_alloc, World.size_alloc, sz]
  generalize ((W0.alloc (.map #[] 0)).alloc (.cells #[.map (some (M))] 49)).drew = Wc at *
  have Bw : Below w.heap.size w w1 := HB1.out.trans (hb1.mono HB1.out.size)
  have r3 := (hb1.block (M) (by omega)).trans m3
  have r4 := (hb1.cell (p := ⟨M + 1, 0, none⟩) (cell_lt m4)).trans m4
  have r7 := (hb1.cell (p := ⟨w.heap.size + 1, 0, none⟩) (cell_lt m7)).trans m7
  have r6 := (hb1.cell (p := ⟨w.heap.size, 0, none⟩) (cell_lt m6)).trans m6
  have rk := (Bw.cell (p := ⟨kb, 0, none⟩) lk).trans hk
  have s0 := (hb1.cell (p := ⟨w.heap.size + 1 + 1, 0, none⟩) (cell_lt n0)).trans n0
  have s1 := (hb1.cell (p := ⟨w.heap.size + 1 + 1, 1, none⟩) (cell_lt n1)).trans n1
  have s2 := (hb1.cell (p := ⟨w.heap.size + 1 + 1, 2, none⟩) (cell_lt n2)).trans n2
  have s3 := (hb1.cell (p := ⟨w.heap.size + 1 + 1, 3, none⟩) (cell_lt n3)).trans n3
  have hsz1 : M + 2 ≤ w1.heap.size := by have := hb1.size; omega
  have lpw := cell_lt h0
  have HI : Hid (Iterates pb w.heap.size 7 18 #[.pointer (some ⟨b1, 0, none⟩), .pointer (some ⟨b2, 0, none⟩)] encP (upto kid a (n - a)) w1) :=
    iterates 7 pb nb mb n c a b1 b2 gc cc w.heap.size ca kid sch w1 (HT.out.grown Bw) ((Bw.cell (p := ⟨pb, 3, none⟩) lpw).trans h3) ((Bw.frozen (p := ⟨pb, 3, none⟩) lpw).trans f3) hmp hnp k1 k2 k3
      hgp
  have HBw : Hid (Below w.heap.size w w1) := Bw
  clear m3 m4 m6 m7 n0 n1 n2 n3 hb1 HB1 Bw k1 k2 k3 ye yi B0 B1 sz szc
  refine range_here (pb := pb) (n₀ := w.heap.size) (by omega) rfl (enters_of Ybad.func18 (by kernel_rfl) rfl) (by omega) (by omega) HI.out
    (fun pre W => Grp W (M) w1.heap.size (κ) pre ∧ Kept w1 W pb (M)) ?own ?turn ?zero ?a1 ?assign ?body ?done
  case own =>
    rintro pre W W' row ⟨hG, hKp⟩ hg hr
    exact ⟨hG.own (by omega) hg hr, hKp.grown hg (fun r e => .inl (hr r e).1)⟩
  case turn =>
    rintro W W' ⟨⟨es, cl, gs, g1, g2, g3, g4, g5⟩, hKp⟩ hTu
    have hgs : gs = [] := by
      cases gs with
      | nil => rfl
      | cons q r => simp [groups] at g3
    subst hgs
    have lb : M < W.heap.size := (Array.getElem?_eq_some_iff.1 g1).1
    exact ⟨⟨es, cl, [], (hTu.1.block _ lb (fun e => by have := Option.some.inj e; omega)).trans g1, g2, g3, ⟨(fun _ hq => by cases hq), List.Pairwise.nil⟩, (fun _ hq => by cases hq)⟩, hKp.grown hTu.1 (fun r e => .inr (.inl (Option.some.inj e).symm))⟩
  case zero => exact ⟨Grp.nil _ r3, Kept.refl _ _ _⟩
  case assign =>
    intro l x W K hK
    gi_wp2
    exact hK
  case body =>
    rintro l pre x rest W hx ⟨hG, hKp⟩
    have hpl : pre.length ≤ 2048 := by
      have h := congrArg List.length hx
      have := HT.out.hn
      simp [upto] at h
      omega
    obtain ⟨v, v', w', es, cl, es', cl', gm, qL, qA, qU, hv', hcells, hG', hKF, hBl, hBk⟩ := round_facts (W := W.drew) (n₀ := w.heap.size) hG.drew x (by omega) (by omega) hKp.2.2.2.1 hpl
    have qL1 := qL W.drew.drew gm
    have qL2 := qL (W.alloc (.cells #[encP x] 39)).drew.drew ((Below.heap_alloc W _ _ (Array.getElem?_eq_some_iff.1 gm).1).trans gm)
    obtain ⟨cx0, hxp⟩ : w.cell? ⟨x, 4, none⟩ = some (.string (κ x)) ∧ x ≠ pb := by
      have hm : x ∈ upto kid a (n - a) := by rw [hx]; simp
      simp only [upto, List.mem_map, List.mem_range] at hm
      obtain ⟨q, hq, rfl⟩ := hm
      exact hκ (a + q) (by omega) (by omega)
    have lx := cell_lt cx0
    have cx := (hKp.cell (b := x) (by omega) hxp (by omega) 4).trans ((HBw.out.cell (p := ⟨x, 4, none⟩) lx).trans cx0)
    have c7 := (hKp.cell (b := w.heap.size + 1) (by omega) (by omega) (by omega) 0).trans r7
    have c6 := (hKp.cell (b := w.heap.size) (by omega) (by omega) (by omega) 0).trans r6
    have ck := (hKp.cell (b := kb) (by omega) hkp (by omega) 0).trans rk
    have c12 := (hKp.cell (b := M + 1) (by omega) (by omega) (by omega) 0).trans r4
    have d12 := hcells (M + 1) 0 _ (by omega) c12
    have dx := hcells x 4 _ (by omega) cx
    have l12 := cell_lt c12
    have fin : Kept w1 (w'.putObj (M) (.map es' cl')) pb (M) := ⟨hBl.os.trans hKp.1, hBl.tape.trans hKp.2.1, hBl.output.trans hKp.2.2.1, Nat.le_trans hKp.2.2.2.1 hKF.size, fun k hk hp hq => (hBk k hk hq).trans (hKp.2.2.2.2 k hk hp hq)⟩
    have HF : Hid (KeepsFrom w1.heap.size W (w'.putObj (M) (.map es' cl')) ∧ Below w.heap.size W (w'.putObj (M) (.map es' cl')) ∧ Grp (w'.putObj (M) (.map es' cl')) (M) w1.heap.size κ (pre ++ [x]) ∧ Kept w1 (w'.putObj (M) (.map es' cl')) pb (M)) := ⟨⟨hKF.size, hKF.same⟩, ⟨hBl.os, hBl.tape, hBl.output, hBl.size, hBl.block⟩, hG', fin⟩
    unfold encP at qA qL2
    have lxW := cell_lt cx
    generalize κ x = s at *
    clear hG hKp hcells hG' hKF hBl hBk fin qL hx r3 r4 r7 r6 rk s0 s1 s2 s3 HI HBw cx0
    unfold encP
    have hmo : Ybad.prog.follows .mixedOrders = true := by kernel_rfl
    have q := fun V : World => eql_same V nb
    gi_wp2_with fail
    have c12' : (W.alloc (.cells #[.pointer (some ⟨x, 0, none⟩)] 39)).cell? ⟨M + 1, 0, none⟩ = some (.map (some M)) := by rw [World.cell?_alloc_lt _ _ _ l12]; exact c12
    have cx' : (W.alloc (.cells #[.pointer (some ⟨x, 0, none⟩)] 39)).cell? ⟨x, 4, none⟩ = some (.string s) := by rw [World.cell?_alloc_lt _ _ _ lxW]; exact cx
    gi_region_o
    all_goals gi_wp2_with fail
    all_goals
      refine region16 (bm := M) (c12 := M + 1) (x := x) (s := s) (v := v) (v' := v') (W' := w') rfl ⟨⟨_, rfl, rfl, rfl, rfl, rfl⟩, ⟨_, rfl, rfl, rfl, rfl, rfl⟩, ⟨_, rfl, rfl, rfl, rfl, rfl⟩, ⟨_, rfl, rfl, rfl, rfl, rfl⟩, ⟨_, rfl, rfl, rfl, rfl, rfl⟩, ⟨_, rfl, rfl, rfl, rfl, rfl⟩, ⟨_, rfl, rfl, rfl, rfl, rfl⟩, ⟨_, rfl, rfl, rfl, rfl, rfl⟩, ⟨_, rfl, rfl, rfl, rfl, rfl⟩, ⟨_, rfl, rfl, rfl, rfl, rfl⟩, ⟨_, rfl, rfl, rfl, rfl, rfl⟩, ⟨_, rfl, rfl, rfl, rfl, rfl⟩, ⟨_, rfl, rfl, rfl, rfl, rfl⟩, ⟨_, rfl, rfl, rfl, rfl, rfl⟩, ⟨_, rfl, rfl, rfl, rfl, rfl⟩⟩ ?_ ?_ c12 c12' d12 cx cx' dx qL1 qL2 qA qU rfl rfl rfl ?_
      · intro k hk j hj listed h
        have hc : k = 0 ∨ k = 1 ∨ k = 2 ∨ k = 3 ∨ k = 4 ∨ k = 5 ∨ k = 6 ∨ k = 7 ∨ k = 8 ∨ k = 9 ∨ k = 10 ∨ k = 11 ∨ k = 12 ∨ k = 13 ∨ k = 14 := by omega
        rcases hc with rfl | rfl | rfl | rfl | rfl | rfl | rfl | rfl | rfl | rfl | rfl | rfl | rfl | rfl | rfl
        all_goals simp [dep16] at hj
        all_goals simp [Region.binds] at h
        all_goals (first | (rcases hj with rfl | rfl | rfl <;> simp [h]) | (rcases hj with rfl | rfl <;> simp [h]) | (subst hj; simp [h]))
      · intro k hk listed hl
        simp only [Array.getD_eq_getD_getElem?] at hl
        have hc : k = 0 ∨ k = 1 ∨ k = 2 ∨ k = 3 ∨ k = 4 ∨ k = 5 ∨ k = 6 ∨ k = 7 ∨ k = 8 ∨ k = 9 ∨ k = 10 ∨ k = 11 ∨ k = 12 ∨ k = 13 ∨ k = 14 := by omega
        rcases hc with rfl | rfl | rfl | rfl | rfl | rfl | rfl | rfl | rfl | rfl | rfl | rfl | rfl | rfl | rfl
        all_goals simp [may, Region.binds, hl]
      · intro a'
        exact HF.out
  case done =>
    rintro D W hD ⟨hG, hKp⟩ hK
    have nip : ib ≠ pb := by
      rintro rfl
      unfold World.cell? at h0
      rw [hi] at h0
      cases h0
    have gi : W.heap[ib]? = some (.map #[] cl0) := (hKp.2.2.2.2 ib (by omega) nip (by omega)).trans ((HBw.out.block ib li).trans hi)
    have ge := (hKp.cell (b := eb) (by omega) hep (by omega) 3).trans ((HBw.out.cell (p := ⟨eb, 3, none⟩) le).trans he)
    have t0 := (hKp.cell (b := w.heap.size + 1 + 1) (by omega) (by omega) (by omega) 0).trans s0
    have t1 := (hKp.cell (b := w.heap.size + 1 + 1) (by omega) (by omega) (by omega) 1).trans s1
    have t2 := (hKp.cell (b := w.heap.size + 1 + 1) (by omega) (by omega) (by omega) 2).trans s2
    have t3 := (hKp.cell (b := w.heap.size + 1 + 1) (by omega) (by omega) (by omega) 3).trans s3
    have t12 := (hKp.cell (b := M + 1) (by omega) (by omega) (by omega) 0).trans r4
    have q := update54_nil (w := W.drew) pb nb (some ⟨nb, 0, none⟩) ⟨#[]⟩ (.map (some (M))) gi
    have nei : eb ≠ ib := by
      rintro rfl
      unfold World.cell? at ge
      rw [gi] at ge
      cases ge
    unfold ik at q
    have HG : Hid (Grp W (M) w1.heap.size (κ) (upto kid a (n - a))) := hG
    have HKp : Hid (Kept w1 W pb (M)) := hKp
    have HKD : Hid (W.heap[D]? = some (.deferred (some []))) := hK
    clear hG hKp hK s0 s1 s2 s3 r3 r4 r7 HI
    gi_wp2_with fail
    refine wpIn_wide.2 ?_
    go_region_held3 (fun w' => w'.cell? ⟨eb, 3, none⟩ = some (.map (some ib)) ∧ w'.cell? ⟨w.heap.size + 1 + 1, 0, none⟩ = some (.pointer (some ⟨pb, 0, none⟩)) ∧ w'.cell? ⟨w.heap.size + 1 + 1, 1, none⟩ = some (.pointer (some ⟨nb, 0, none⟩)) ∧ w'.cell? ⟨w.heap.size + 1 + 1, 2, none⟩ = some (.pointer (some ⟨nb, 0, none⟩)) ∧ w'.cell? ⟨w.heap.size + 1 + 1, 3, none⟩ = some (.string ⟨#[]⟩) ∧ w'.cell? ⟨M + 1, 0, none⟩ = some (.map (some (M))))
      (first | exact ⟨ge, t0, t1, t2, t3, t12⟩ | exact ⟨(cell_put nei).trans ge, (cell_put (by omega)).trans t0, (cell_put (by omega)).trans t1, (cell_put (by omega)).trans t2, (cell_put (by omega)).trans t3, (cell_put (by omega)).trans t12⟩) (fail)
    have nD : D ≠ ib := by omega
    have lib : ib < W.drew.heap.size := (Array.getElem?_eq_some_iff.1 gi).1
    have u12 := (cell_put (w := W.drew) (r := ib) (b := M + 1) (j := 0) (o := .map #[{ key := ik pb nb (some ⟨nb, 0, none⟩) ⟨#[]⟩, val := .map (some (M)), born := cl0 }] (cl0 + 1)) (by omega)).trans t12
    have uD : (W.drew.putObj ib (.map #[{ key := ik pb nb (some ⟨nb, 0, none⟩) ⟨#[]⟩, val := .map (some (M)), born := cl0 }] (cl0 + 1))).heap[D]? = some (.deferred (some [])) := (World.putObj_heap_other nD).trans HKD.out
    have ui : (W.drew.putObj ib (.map #[{ key := ik pb nb (some ⟨nb, 0, none⟩) ⟨#[]⟩, val := .map (some (M)), born := cl0 }] (cl0 + 1))).heap[ib]? = some (.map #[{ key := ik pb nb (some ⟨nb, 0, none⟩) ⟨#[]⟩, val := .map (some (M)), born := cl0 }] (cl0 + 1)) := World.putObj_heap_same lib
    have UG : Hid (Grp (W.drew.putObj ib (.map #[{ key := ik pb nb (some ⟨nb, 0, none⟩) ⟨#[]⟩, val := .map (some (M)), born := cl0 }] (cl0 + 1))) (M) w1.heap.size (κ) (upto kid a (n - a))) := HG.out.drew.put (by omega) gi rfl _
    have UK : Hid (Kept w (W.drew.putObj ib (.map #[{ key := ik pb nb (some ⟨nb, 0, none⟩) ⟨#[]⟩, val := .map (some (M)), born := cl0 }] (cl0 + 1))) pb ib) := by
      have k := HKp.out
      have b := HBw.out
      refine ⟨k.1.trans b.os, k.2.1.trans b.tape, k.2.2.1.trans b.output, ?_, fun j hj hp hq => ?_⟩
      · show w.heap.size ≤ (W.heap.setIfInBounds _ _).size
        rw [Array.size_setIfInBounds]
        have := k.2.2.2.1
        have := b.size
        omega
      · exact (World.putObj_heap_other hq).trans ((k.2.2.2.2 j (by omega) hp (by omega)).trans (b.block j hj))
    unfold ik at u12 uD
    clear q t0 t1 t2 t3 t12 ge gi HG HKp HKD HBw
    gi_wp2_with fail
    refine ⟨by simp, .inl ⟨_, _, rfl, run_takeDeferred uD, ?_⟩⟩
    refine ⟨_, results_tmp rfl _ _ _, M, w1.heap.size, rfl, by omega, by omega, UG.out.put (by omega) uD rfl _, ?_⟩
    have k := UK.out
    exact ⟨k.1, k.2.1, k.2.2.1, by show w.heap.size ≤ (Array.setIfInBounds _ _ _).size; rw [Array.size_setIfInBounds]; exact k.2.2.2.1, fun j hj hp hq => (World.putObj_heap_other (by omega)).trans (k.2.2.2.2 j hj hp hq)⟩

end Go.Proofs.YbulkavwiDoor
