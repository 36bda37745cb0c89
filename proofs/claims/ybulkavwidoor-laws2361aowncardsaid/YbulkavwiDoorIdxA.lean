/-
  index, with no keys.
-/
import Derived.Test.YbulkavwiDoorR14
namespace Go.Proofs.YbulkavwiDoor
open Go.RowKit Go.Shelf
set_option linter.unusedSimpArgs false
set_option linter.unusedVariables false
attribute [local go_sem] Oper.semAt_some

/-- What lay below w's size lies as it lay, but for two blocks. -/
def Kept (w W : World) (p q : Nat) : Prop := W.os = w.os ∧ W.tape = w.tape ∧ W.output = w.output ∧ w.heap.size ≤ W.heap.size ∧ ∀ k, k < w.heap.size → k ≠ p → k ≠ q → W.heap[k]? = w.heap[k]?

theorem Kept.cell {w W : World} {p q b : Nat} (h : Kept w W p q) (hb : b < w.heap.size) (hp : b ≠ p) (hq : b ≠ q) (j : Nat) : W.cell? ⟨b, j, none⟩ = w.cell? ⟨b, j, none⟩ := by
  unfold World.cell?
  rw [h.2.2.2.2 b hb hp hq]
theorem Grp.put {W : World} {bm B r : Nat} {κ : Nat → ByteArray} {pre : List Nat} {o : Obj} (h : Grp W bm B κ pre) (hne : bm ≠ r) (hr : W.heap[r]? = some o) (hc : o.isCells = false) (o' : Obj) : Grp (W.putObj r o') bm B κ pre := by
  obtain ⟨es, cl, gs, h1, h2, h3, h4, h5⟩ := h
  exact ⟨es, cl, gs, (World.putObj_heap_other hne).trans h1, h2, h3, rows_kept h4 (grownBy_putObj' _ _ _) (fun k e => by cases e; exact ⟨o, hr, hc⟩), h5⟩
theorem Grp.drew {W : World} {bm B : Nat} {κ : Nat → ByteArray} {pre : List Nat} (h : Grp W bm B κ pre) : Grp W.drew bm B κ pre := h
theorem Kept.refl (w : World) (p q : Nat) : Kept w w p q := ⟨rfl, rfl, rfl, Nat.le_refl _, fun _ _ _ _ => rfl⟩
theorem Kept.grown {w W W' : World} {p q : Nat} {row : Option Nat} (h : Kept w W p q) (hg : W.grownBy W' row) (hr : ∀ r, row = some r → w.heap.size ≤ r ∨ r = p ∨ r = q) : Kept w W' p q :=
  ⟨hg.os.trans h.1, hg.tape.trans h.2.1, hg.output.trans h.2.2.1, Nat.le_trans h.2.2.2.1 hg.size, fun k hk hp hq => (hg.block k (Nat.lt_of_lt_of_le hk h.2.2.2.1) (fun e => by
    rcases hr k e.symm with h | h | h
    · omega
    · exact hp h
    · exact hq h)).trans (h.2.2.2.2 k hk hp hq)⟩

set_option maxRecDepth 100000 in
set_option maxHeartbeats 2000000 in
theorem index_all (eb ib cl0 pb nb rb mb n c a : Nat) (ca : Option Addr) (kid sch : Nat → Nat) (w : World) (t : Tree w pb nb mb ca n c a kid sch)
    (h3 : w.cell? ⟨pb, 3, none⟩ = some (.map none)) (f3 : w.frozen? ⟨pb, 3, none⟩ = false) (hmp : mb ≠ pb) (hnp : nb ≠ pb) (hgp : ∀ g, ca = some ⟨g, 0, none⟩ → g < w.heap.size ∧ g ≠ pb)
    (h0 : w.cell? ⟨pb, 0, none⟩ = some (.pointer (some ⟨rb, 0, none⟩))) (hn : w.cell? ⟨nb, 5, none⟩ = some (.pointer (some ⟨rb, 0, none⟩))) (hr : w.cell? ⟨rb, 5, none⟩ = some (.pointer none))
    (he : w.cell? ⟨eb, 3, none⟩ = some (.map (some ib))) (hi : w.heap[ib]? = some (.map #[] cl0)) (hep : eb ≠ pb) :
    Calls Ybad.prog 7 #[.pointer (some ⟨eb, 0, none⟩), .pointer (some ⟨pb, 0, none⟩), .pointer (some ⟨nb, 0, none⟩), .slice none 0 0] w fun e w' => ∃ bm B, e = .returned (.map (some bm)) ∧ w.heap.size ≤ bm ∧ bm < B ∧ Grp w' bm B (fun _ => ⟨#[]⟩) (upto kid a (n - a)) ∧
      w'.heap[ib]? = some (.map #[{ key := ik pb nb none ⟨#[]⟩, val := .map (some bm), born := cl0 }] (cl0 + 1)) ∧ Kept w w' pb ib := by
  have mm := @run_makeMap Ybad.prog
  have li := (Array.getElem?_eq_some_iff.1 hi).1
  have le := cell_lt he
  refine (callsIn_wide (n := 8)).1 ?_
  refine callsIn_of_wp_marks Ybad.func7 rfl trivial ?_ rfl
  simp only [Ybad.ntmps7, List.size_toArray, List.length_cons, List.length_nil, Nat.reduceAdd, Nat.reduceSub, Array.replicate_succ, Array.replicate_zero, List.push_toArray, List.append_toArray, List.nil_append, List.cons_append]
  gi_wp2_with fail
  have B0 : Below w.heap.size w (((w.alloc (.cells #[.pointer (some ⟨nb, 0, none⟩)] 23)).alloc (.cells #[.slice none 0 0] 26)).alloc (.cells #[.pointer (some ⟨pb, 0, none⟩), .pointer (some ⟨nb, 0, none⟩), .pointer none, .string ⟨#[]⟩] 62)) :=
    (((Below.refl _ _).alloc (Nat.le_refl _) _).alloc (by simp) _).alloc (by simp; omega) _
  have z6 : (((w.alloc (.cells #[.pointer (some ⟨nb, 0, none⟩)] 23)).alloc (.cells #[.slice none 0 0] 26)).alloc (.cells #[.pointer (some ⟨pb, 0, none⟩), .pointer (some ⟨nb, 0, none⟩), .pointer none, .string ⟨#[]⟩] 62)).cell? ⟨w.heap.size, 0, none⟩ = some (.pointer (some ⟨nb, 0, none⟩)) := by go_simp
  have z7 : (((w.alloc (.cells #[.pointer (some ⟨nb, 0, none⟩)] 23)).alloc (.cells #[.slice none 0 0] 26)).alloc (.cells #[.pointer (some ⟨pb, 0, none⟩), .pointer (some ⟨nb, 0, none⟩), .pointer none, .string ⟨#[]⟩] 62)).cell? ⟨w.heap.size + 1, 0, none⟩ = some (.slice none 0 0) := by go_simp
  have y0 : (((w.alloc (.cells #[.pointer (some ⟨nb, 0, none⟩)] 23)).alloc (.cells #[.slice none 0 0] 26)).alloc (.cells #[.pointer (some ⟨pb, 0, none⟩), .pointer (some ⟨nb, 0, none⟩), .pointer none, .string ⟨#[]⟩] 62)).cell? ⟨w.heap.size + 1 + 1, 0, none⟩ = some (.pointer (some ⟨pb, 0, none⟩)) := by go_simp
  have y1 : (((w.alloc (.cells #[.pointer (some ⟨nb, 0, none⟩)] 23)).alloc (.cells #[.slice none 0 0] 26)).alloc (.cells #[.pointer (some ⟨pb, 0, none⟩), .pointer (some ⟨nb, 0, none⟩), .pointer none, .string ⟨#[]⟩] 62)).cell? ⟨w.heap.size + 1 + 1, 1, none⟩ = some (.pointer (some ⟨nb, 0, none⟩)) := by go_simp
  have y2 : (((w.alloc (.cells #[.pointer (some ⟨nb, 0, none⟩)] 23)).alloc (.cells #[.slice none 0 0] 26)).alloc (.cells #[.pointer (some ⟨pb, 0, none⟩), .pointer (some ⟨nb, 0, none⟩), .pointer none, .string ⟨#[]⟩] 62)).cell? ⟨w.heap.size + 1 + 1, 2, none⟩ = some (.pointer none) := by go_simp
  have y3 : (((w.alloc (.cells #[.pointer (some ⟨nb, 0, none⟩)] 23)).alloc (.cells #[.slice none 0 0] 26)).alloc (.cells #[.pointer (some ⟨pb, 0, none⟩), .pointer (some ⟨nb, 0, none⟩), .pointer none, .string ⟨#[]⟩] 62)).cell? ⟨w.heap.size + 1 + 1, 3, none⟩ = some (.string ⟨#[]⟩) := by go_simp
  have sz : (((w.alloc (.cells #[.pointer (some ⟨nb, 0, none⟩)] 23)).alloc (.cells #[.slice none 0 0] 26)).alloc (.cells #[.pointer (some ⟨pb, 0, none⟩), .pointer (some ⟨nb, 0, none⟩), .pointer none, .string ⟨#[]⟩] 62)).heap.size = w.heap.size + 3 := by simp
  generalize (((w.alloc (.cells #[.pointer (some ⟨nb, 0, none⟩)] 23)).alloc (.cells #[.slice none 0 0] 26)).alloc (.cells #[.pointer (some ⟨pb, 0, none⟩), .pointer (some ⟨nb, 0, none⟩), .pointer none, .string ⟨#[]⟩] 62)) = W0 at *
  have ye := (B0.cell (p := ⟨eb, 3, none⟩) le).trans he
  have yi := (B0.block ib li).trans hi
  have q := lookup54_nil (w := W0.drew) pb nb none ⟨#[]⟩ yi
  unfold ik at q
  refine wpIn_wide.2 ?_
  go_region_held3 (fun w' => w'.cell? ⟨eb, 3, none⟩ = some (.map (some ib)) ∧ w'.cell? ⟨w.heap.size + 1 + 1, 0, none⟩ = some (.pointer (some ⟨pb, 0, none⟩)) ∧ w'.cell? ⟨w.heap.size + 1 + 1, 1, none⟩ = some (.pointer (some ⟨nb, 0, none⟩)) ∧ w'.cell? ⟨w.heap.size + 1 + 1, 2, none⟩ = some (.pointer none) ∧ w'.cell? ⟨w.heap.size + 1 + 1, 3, none⟩ = some (.string ⟨#[]⟩)) (first | exact ⟨ye, y0, y1, y2, y3⟩) (fail)
  have B1 : Below w.heap.size w ((W0.alloc (.map #[] 0)).alloc (.cells #[.map (some (w.heap.size + 3))] 49)).drew := ((B0.alloc B0.size _).alloc (by simp; omega) _).drew
  have m3 : ((W0.alloc (.map #[] 0)).alloc (.cells #[.map (some (w.heap.size + 3))] 49)).drew.heap[w.heap.size + 3]? = some (.map #[] 0) := by
    have h := World.alloc_heap_new W0 (.map #[] 0)
    rw [sz] at h
    exact (Below.heap_alloc _ _ _ (by simp; omega)).trans h
  have m4 : ((W0.alloc (.map #[] 0)).alloc (.cells #[.map (some (w.heap.size + 3))] 49)).drew.cell? ⟨w.heap.size + 3 + 1, 0, none⟩ = some (.map (some (w.heap.size + 3))) := by
    show ((W0.alloc (.map #[] 0)).alloc (.cells #[.map (some (w.heap.size + 3))] 49)).cell? ⟨w.heap.size + 3 + 1, 0, none⟩ = _
    have h := World.alloc_heap_new (W0.alloc (.map #[] 0)) (.cells #[.map (some (w.heap.size + 3))] 49)
    rw [World.size_alloc, sz] at h
    simp [World.cell?, h]
  have bb : Below W0.heap.size W0 ((W0.alloc (.map #[] 0)).alloc (.cells #[.map (some (w.heap.size + 3))] 49)).drew := (((Below.refl _ _).alloc (Nat.le_refl _) _).alloc (by simp) _).drew
  have m6 := (bb.cell (p := ⟨w.heap.size, 0, none⟩) (cell_lt z6)).trans z6
  have m7 := (bb.cell (p := ⟨w.heap.size + 1, 0, none⟩) (cell_lt z7)).trans z7
  have n0 := (bb.cell (p := ⟨w.heap.size + 1 + 1, 0, none⟩) (cell_lt y0)).trans y0
  have n1 := (bb.cell (p := ⟨w.heap.size + 1 + 1, 1, none⟩) (cell_lt y1)).trans y1
  have n2 := (bb.cell (p := ⟨w.heap.size + 1 + 1, 2, none⟩) (cell_lt y2)).trans y2
  have n3 := (bb.cell (p := ⟨w.heap.size + 1 + 1, 3, none⟩) (cell_lt y3)).trans y3
  have HB : Hid (Calls Ybad.prog 11 #[.pointer (some ⟨pb, 0, none⟩), .pointer (some ⟨nb, 0, none⟩)] ((W0.alloc (.map #[] 0)).alloc (.cells #[.map (some (w.heap.size + 3))] 49)).drew fun e w' => ∃ b1 b2 g c, e = .returned (.func (.func 18) #[] #[.pointer (some ⟨b1, 0, none⟩), .pointer (some ⟨b2, 0, none⟩)]) ∧
      w'.cell? ⟨b1, 0, none⟩ = some (.pointer (some ⟨pb, 0, none⟩)) ∧ w'.cell? ⟨b2, 0, none⟩ = some (.slice (some ⟨g, 0, none⟩) 1 c) ∧ w'.cell? ⟨g, 0, none⟩ = some (.pointer (some ⟨nb, 0, none⟩)) ∧ Below ((W0.alloc (.map #[] 0)).alloc (.cells #[.map (some (w.heap.size + 3))] 49)).drew.heap.size ((W0.alloc (.map #[] 0)).alloc (.cells #[.map (some (w.heap.size + 3))] 49)).drew w') :=
    below_any pb nb rb _ ((B1.cell (p := ⟨pb, 0, none⟩) (cell_lt h0)).trans h0) ((B1.cell (p := ⟨nb, 5, none⟩) (cell_lt hn)).trans hn) ((B1.cell (p := ⟨rb, 5, none⟩) (cell_lt hr)).trans hr)
  have HT : Hid (Tree w pb nb mb ca n c a kid sch) := t
  have HB1 : Hid (Below w.heap.size w ((W0.alloc (.map #[] 0)).alloc (.cells #[.map (some (w.heap.size + 3))] 49)).drew) := B1
  clear bb y0 y1 y2 y3 z6 z7 q t
  gi_wp2_with (refine ⟨trivial, ?_⟩; gi_at_call 11; refine (callsIn_wide.2 HB.out).mono ?_; clear HB; rintro e w1 ⟨b1, b2, gc, cc, rfl, k1, k2, k3, hb1⟩)
  have szc : ((W0.alloc (.map #[] 0)).alloc (.cells #[.map (some (w.heap.size + 3))] 49)).drew.heap.size = w.heap.size + 5 := by show ((W0.alloc (.map #[] 0)).alloc _).heap.size = _; rw [World.size_alloc, World.size_alloc, sz]
  generalize ((W0.alloc (.map #[] 0)).alloc (.cells #[.map (some (w.heap.size + 3))] 49)).drew = Wc at *
  have Bw : Below w.heap.size w w1 := HB1.out.trans (hb1.mono HB1.out.size)
  have r3 := (hb1.block (w.heap.size + 3) (by omega)).trans m3
  have r4 := (hb1.cell (p := ⟨w.heap.size + 3 + 1, 0, none⟩) (cell_lt m4)).trans m4
  have r7 := (hb1.cell (p := ⟨w.heap.size + 1, 0, none⟩) (cell_lt m7)).trans m7
  have s0 := (hb1.cell (p := ⟨w.heap.size + 1 + 1, 0, none⟩) (cell_lt n0)).trans n0
  have s1 := (hb1.cell (p := ⟨w.heap.size + 1 + 1, 1, none⟩) (cell_lt n1)).trans n1
  have s2 := (hb1.cell (p := ⟨w.heap.size + 1 + 1, 2, none⟩) (cell_lt n2)).trans n2
  have s3 := (hb1.cell (p := ⟨w.heap.size + 1 + 1, 3, none⟩) (cell_lt n3)).trans n3
  have hsz1 : w.heap.size + 5 ≤ w1.heap.size := by have := hb1.size; omega
  have lpw := cell_lt h0
  have HI : Hid (Iterates pb w.heap.size 7 18 #[.pointer (some ⟨b1, 0, none⟩), .pointer (some ⟨b2, 0, none⟩)] encP (upto kid a (n - a)) w1) :=
    iterates 7 pb nb mb n c a b1 b2 gc cc w.heap.size ca kid sch w1 (HT.out.grown Bw) ((Bw.cell (p := ⟨pb, 3, none⟩) lpw).trans h3) ((Bw.frozen (p := ⟨pb, 3, none⟩) lpw).trans f3) hmp hnp k1 k2 k3
      hgp
  have HBw : Hid (Below w.heap.size w w1) := Bw
  clear m3 m4 m6 m7 n0 n1 n2 n3 hb1 HB1 Bw k1 k2 k3 ye yi B0 B1 sz szc
  refine range_here (pb := pb) (n₀ := w.heap.size) (by omega) rfl (enters_of Ybad.func18 (by kernel_rfl) rfl) (by omega) (by omega) HI.out
    (fun pre W => Grp W (w.heap.size + 3) w1.heap.size (fun _ => ⟨#[]⟩) pre ∧ Kept w1 W pb (w.heap.size + 3)) ?own ?turn ?zero ?a1 ?assign ?body ?done
  case own =>
    rintro pre W W' row ⟨hG, hKp⟩ hg hr
    exact ⟨hG.own (by omega) hg hr, hKp.grown hg (fun r e => .inl (hr r e).1)⟩
  case turn =>
    rintro W W' ⟨⟨es, cl, gs, g1, g2, g3, g4, g5⟩, hKp⟩ hTu
    have hgs : gs = [] := by
      cases gs with
      | nil => rfl
      | cons q r => simp [groups] at g3
    subst hgs
    have lb : w.heap.size + 3 < W.heap.size := (Array.getElem?_eq_some_iff.1 g1).1
    exact ⟨⟨es, cl, [], (hTu.1.block _ lb (fun e => by have := Option.some.inj e; omega)).trans g1, g2, g3, ⟨(fun _ hq => by cases hq), List.Pairwise.nil⟩, (fun _ hq => by cases hq)⟩, hKp.grown hTu.1 (fun r e => .inr (.inl (Option.some.inj e).symm))⟩
  case zero => exact ⟨Grp.nil _ r3, Kept.refl _ _ _⟩
  case assign =>
    intro l x W K hK
    gi_wp2
    exact hK
  case body =>
    rintro l pre x rest W hx ⟨hG, hKp⟩
    have hpl : pre.length ≤ 2048 := by
      have h := congrArg List.length hx
      have := HT.out.hn
      simp [upto] at h
      omega
    obtain ⟨v, v', w', es, cl, es', cl', gm, qL, qA, qU, hv', hcells, hG', hKF, hBl, hBk⟩ := round_facts (n₀ := w.heap.size) hG x (by omega) (by omega) hKp.2.2.2.1 hpl
    have qL1 := qL W.drew gm
    have qL2 := qL (W.alloc (.cells #[encP x] 39)).drew ((Below.heap_alloc W _ _ (Array.getElem?_eq_some_iff.1 gm).1).trans gm)
    have c7 := (hKp.cell (b := w.heap.size + 1) (by omega) (by omega) (by omega) 0).trans r7
    have c12 := (hKp.cell (b := w.heap.size + 3 + 1) (by omega) (by omega) (by omega) 0).trans r4
    have d12 := hcells (w.heap.size + 3 + 1) 0 _ (by omega) c12
    have l12 := cell_lt c12
    have fin : Kept w1 (w'.putObj (w.heap.size + 3) (.map es' cl')) pb (w.heap.size + 3) := ⟨hBl.os.trans hKp.1, hBl.tape.trans hKp.2.1, hBl.output.trans hKp.2.2.1, Nat.le_trans hKp.2.2.2.1 hKF.size, fun k hk hp hq => (hBk k hk hq).trans (hKp.2.2.2.2 k hk hp hq)⟩
    have HF : Hid (KeepsFrom w1.heap.size W (w'.putObj (w.heap.size + 3) (.map es' cl')) ∧ Below w.heap.size W (w'.putObj (w.heap.size + 3) (.map es' cl')) ∧ Grp (w'.putObj (w.heap.size + 3) (.map es' cl')) (w.heap.size + 3) w1.heap.size (fun _ => ⟨#[]⟩) (pre ++ [x]) ∧ Kept w1 (w'.putObj (w.heap.size + 3) (.map es' cl')) pb (w.heap.size + 3)) := ⟨hKF, hBl, hG', fin⟩
    unfold encP at qA qL2
    clear hG hKp hcells hG' hKF hBl hBk fin qL hx r3 r4 r7 s0 s1 s2 s3 HI HBw
    unfold encP
    gi_wp2_with fail
    refine region14 (bm := w.heap.size + 3) (c12 := w.heap.size + 3 + 1) (x := x) (v := v) (v' := v') (W' := w') rfl ⟨_, rfl, rfl, rfl, rfl, rfl⟩ ⟨_, rfl, rfl, rfl, rfl, rfl⟩ ⟨_, rfl, rfl, rfl, rfl, rfl⟩ ⟨_, rfl, rfl, rfl, rfl, rfl⟩ ⟨_, rfl, rfl, rfl, rfl, rfl⟩ ⟨_, rfl, rfl, rfl, rfl, rfl⟩ ⟨_, rfl, rfl, rfl, rfl, rfl⟩
      ?p2 ?p4 ?p5 ?p5' ?p6 ?p6' ?m c12 ?c1 d12 qL1 qL2 qA qU rfl rfl rfl ?q
    case c1 =>
      show (W.alloc _).cell? _ = _
      rw [World.cell?_alloc_lt _ _ _ l12]
      exact c12
    case q =>
      intro a'
      exact HF.out
    case m =>
      intro k hk listed hl
      simp only [Array.getD_eq_getD_getElem?] at hl
      have hc : k = 0 ∨ k = 1 ∨ k = 2 ∨ k = 3 ∨ k = 4 ∨ k = 5 ∨ k = 6 := by omega
      rcases hc with rfl | rfl | rfl | rfl | rfl | rfl | rfl
      all_goals simp [may, Region.binds, hl]
    all_goals
      intro listed h
      simp [Region.binds] at h
      simp [h]
  case done =>
    rintro D W hD ⟨hG, hKp⟩ hK
    have nip : ib ≠ pb := by
      rintro rfl
      unfold World.cell? at h0
      rw [hi] at h0
      cases h0
    have gi : W.heap[ib]? = some (.map #[] cl0) := (hKp.2.2.2.2 ib (by omega) nip (by omega)).trans ((HBw.out.block ib li).trans hi)
    have ge := (hKp.cell (b := eb) (by omega) hep (by omega) 3).trans ((HBw.out.cell (p := ⟨eb, 3, none⟩) le).trans he)
    have t0 := (hKp.cell (b := w.heap.size + 1 + 1) (by omega) (by omega) (by omega) 0).trans s0
    have t1 := (hKp.cell (b := w.heap.size + 1 + 1) (by omega) (by omega) (by omega) 1).trans s1
    have t2 := (hKp.cell (b := w.heap.size + 1 + 1) (by omega) (by omega) (by omega) 2).trans s2
    have t3 := (hKp.cell (b := w.heap.size + 1 + 1) (by omega) (by omega) (by omega) 3).trans s3
    have t12 := (hKp.cell (b := w.heap.size + 3 + 1) (by omega) (by omega) (by omega) 0).trans r4
    have q := update54_nil (w := W.drew) pb nb none ⟨#[]⟩ (.map (some (w.heap.size + 3))) gi
    have nei : eb ≠ ib := by
      rintro rfl
      unfold World.cell? at ge
      rw [gi] at ge
      cases ge
    unfold ik at q
    have HG : Hid (Grp W (w.heap.size + 3) w1.heap.size (fun _ => ⟨#[]⟩) (upto kid a (n - a))) := hG
    have HKp : Hid (Kept w1 W pb (w.heap.size + 3)) := hKp
    have HKD : Hid (W.heap[D]? = some (.deferred (some []))) := hK
    clear hG hKp hK s0 s1 s2 s3 r3 r4 r7 HI
    gi_wp2_with fail
    refine wpIn_wide.2 ?_
    go_region_held3 (fun w' => w'.cell? ⟨eb, 3, none⟩ = some (.map (some ib)) ∧ w'.cell? ⟨w.heap.size + 1 + 1, 0, none⟩ = some (.pointer (some ⟨pb, 0, none⟩)) ∧ w'.cell? ⟨w.heap.size + 1 + 1, 1, none⟩ = some (.pointer (some ⟨nb, 0, none⟩)) ∧ w'.cell? ⟨w.heap.size + 1 + 1, 2, none⟩ = some (.pointer none) ∧ w'.cell? ⟨w.heap.size + 1 + 1, 3, none⟩ = some (.string ⟨#[]⟩) ∧ w'.cell? ⟨w.heap.size + 3 + 1, 0, none⟩ = some (.map (some (w.heap.size + 3))))
      (first | exact ⟨ge, t0, t1, t2, t3, t12⟩ | exact ⟨(cell_put nei).trans ge, (cell_put (by omega)).trans t0, (cell_put (by omega)).trans t1, (cell_put (by omega)).trans t2, (cell_put (by omega)).trans t3, (cell_put (by omega)).trans t12⟩) (fail)
    have nD : D ≠ ib := by omega
    have lib : ib < W.drew.heap.size := (Array.getElem?_eq_some_iff.1 gi).1
    have u12 := (cell_put (w := W.drew) (r := ib) (b := w.heap.size + 3 + 1) (j := 0) (o := .map #[{ key := ik pb nb none ⟨#[]⟩, val := .map (some (w.heap.size + 3)), born := cl0 }] (cl0 + 1)) (by omega)).trans t12
    have uD : (W.drew.putObj ib (.map #[{ key := ik pb nb none ⟨#[]⟩, val := .map (some (w.heap.size + 3)), born := cl0 }] (cl0 + 1))).heap[D]? = some (.deferred (some [])) := (World.putObj_heap_other nD).trans HKD.out
    have ui : (W.drew.putObj ib (.map #[{ key := ik pb nb none ⟨#[]⟩, val := .map (some (w.heap.size + 3)), born := cl0 }] (cl0 + 1))).heap[ib]? = some (.map #[{ key := ik pb nb none ⟨#[]⟩, val := .map (some (w.heap.size + 3)), born := cl0 }] (cl0 + 1)) := World.putObj_heap_same lib
    have UG : Hid (Grp (W.drew.putObj ib (.map #[{ key := ik pb nb none ⟨#[]⟩, val := .map (some (w.heap.size + 3)), born := cl0 }] (cl0 + 1))) (w.heap.size + 3) w1.heap.size (fun _ => ⟨#[]⟩) (upto kid a (n - a))) := HG.out.drew.put (by omega) gi rfl _
    have UK : Hid (Kept w (W.drew.putObj ib (.map #[{ key := ik pb nb none ⟨#[]⟩, val := .map (some (w.heap.size + 3)), born := cl0 }] (cl0 + 1))) pb ib) := by
      have k := HKp.out
      have b := HBw.out
      refine ⟨k.1.trans b.os, k.2.1.trans b.tape, k.2.2.1.trans b.output, ?_, fun j hj hp hq => ?_⟩
      · show w.heap.size ≤ (W.heap.setIfInBounds _ _).size
        rw [Array.size_setIfInBounds]
        have := k.2.2.2.1
        have := b.size
        omega
      · exact (World.putObj_heap_other hq).trans ((k.2.2.2.2 j (by omega) hp (by omega)).trans (b.block j hj))
    unfold ik at u12 uD
    clear q t0 t1 t2 t3 t12 ge gi HG HKp HKD HBw
    gi_wp2_with fail
    refine ⟨by simp, .inl ⟨_, _, rfl, run_takeDeferred uD, ?_⟩⟩
    refine ⟨_, results_tmp rfl _ _ _, w.heap.size + 3, w1.heap.size, rfl, by omega, by omega, UG.out.put (by omega) uD rfl _, (World.putObj_heap_other (Ne.symm nD)).trans ui, ?_⟩
    have k := UK.out
    exact ⟨k.1, k.2.1, k.2.2.1, by show w.heap.size ≤ (Array.setIfInBounds _ _ _).size; rw [Array.size_setIfInBounds]; exact k.2.2.2.1, fun j hj hp hq => (World.putObj_heap_other (by omega)).trans (k.2.2.2.2 j hj hp hq)⟩

end Go.Proofs.YbulkavwiDoor
