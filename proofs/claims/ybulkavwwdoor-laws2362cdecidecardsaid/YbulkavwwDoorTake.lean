/-
  The walk of (*circuit).takeDecision.
-/
import Derived.Test.YbulkavwwDoorRoutes
namespace Go.Proofs.YbulkavwwDoor
open Go.RowKit
attribute [local go_sem ↓] Go.wp_at_zero Go.wp_at_succ

theorem equal_any (a a' : Option Addr) (n c n' c' : Nat) (A B A' B' : Nat → Int) (w : World) (hn : n ≤ 1024) (hn' : n' ≤ 1024) (p : Pairs w a n A B) (p' : Pairs w a' n' A' B') :
    Calls Ybad.prog 7 #[.slice a n c, .slice a' n' c'] w fun e w' => ∃ r, e = .returned (.bool r) ∧ (r = true ↔ (n = n' ∧ Same n A B A' B')) ∧ Below w.heap.size w w' := by
  by_cases h : n = n'
  · subst h
    refine (equal_row a a' n c c' A B A' B' w hn p p').mono ?_
    rintro e w' ⟨r, rfl, hr, hb⟩
    exact ⟨r, rfl, ⟨fun h => ⟨rfl, hr.1 h⟩, fun h => hr.2 h.2⟩, hb⟩
  · refine (equal_len a a' n c n' c' w hn hn' h).mono ?_
    rintro e w' ⟨rfl, hb⟩
    exact ⟨false, rfl, ⟨(fun h => by cases h), fun h' => absurd h'.1 h⟩, hb⟩

/-- What routesFor leaves, whether or not the router has decided. -/
def Routed (w : World) (b : Nat) (ch0 : Option Nat) (m : Nat) (RA RB : Nat → Int) (e : Ending) (w' : World) : Prop :=
  ∃ a c ch, e = .returned (.tuple #[.slice a m c, .chan (some ch)]) ∧ Pairs w' a m RA RB ∧ (∀ g, a = some ⟨g, 0, none⟩ → w.heap.size ≤ g) ∧ (∀ c0, ch0 = some c0 → ch = c0) ∧ w'.cell? ⟨b, 11, none⟩ = some (.chan (some ch)) ∧ w.grownBy w' (some b)

theorem Pairs.grown {w w' : World} {b : Nat} {a : Option Addr} {n : Nat} {A B : Nat → Int} (h : Pairs w a n A B) (hg : w.grownBy w' (some b)) (hne : ∀ g, a = some ⟨g, 0, none⟩ → g ≠ b) : Pairs w' a n A B := fun k hk => by
  obtain ⟨g, e, hlt, c0, c1⟩ := h k hk
  have hn : some g ≠ some b := fun h => hne g e (Option.some.inj h)
  exact ⟨g, e, Nat.lt_of_lt_of_le hlt hg.size, hg.cell c0 hn, hg.cell c1 hn⟩

/-- A row of pairs does not lie in the node's block, nor in any whose first cell is no int. -/
theorem Pairs.apart {w : World} {a : Option Addr} {n b : Nat} {A B : Nat → Int} {v : Value} (h : Pairs w a n A B) (hn : 0 < n) (h0 : w.cell? ⟨b, 0, none⟩ = some v) (hv : ∀ x, v ≠ .int .i64 x) : ∀ g, a = some ⟨g, 0, none⟩ → g ≠ b := by
  rintro g rfl rfl
  obtain ⟨g', e, -, c0, -⟩ := h 0 hn
  cases e
  simp only [Nat.zero_mul] at c0
  rw [h0] at c0
  exact hv _ (Option.some.inj c0)

theorem Pairs.zero (w : World) (a : Option Addr) (A B : Nat → Int) : Pairs w a 0 A B := fun k hk => by omega

theorem Pairs.grown' {w w' : World} {b : Nat} {a : Option Addr} {n : Nat} {A B : Nat → Int} (h : Pairs w a n A B) (hg : w.grownBy w' (some b)) {v : Value} (h0 : w.cell? ⟨b, 0, none⟩ = some v) (hv : ∀ x, v ≠ .int .i64 x) : Pairs w' a n A B := by
  rcases Nat.eq_zero_or_pos n with rfl | hn
  · exact Pairs.zero _ _ _ _
  · exact h.grown hg (h.apart hn h0 hv)

theorem gb_below_low {w w' : World} {b N : Nat} (hg : w.grownBy w' (some b)) (hN : N ≤ w.heap.size) (hb : N ≤ b) : Below N w w' :=
  ⟨hg.os, hg.tape, hg.output, hg.size, fun k hk => hg.block k (by omega) (fun h => by have := Option.some.inj h; omega)⟩

set_option maxRecDepth 100000 in
set_option maxHeartbeats 2000000 in
theorem take_any (cb b N m sn sc : Nat) (sa : Option Addr) (ch0 : Option Nat) (id : ByteArray) (pend : Bool) (u38 : Value) (RA RB SA SB : Nat → Int) (w : World) (hne : cb ≠ b) (hNc : N ≤ cb) (hNb : N ≤ b) (hm : m ≤ 1024) (hs : sn ≤ 1024)
    (c0 : w.cell? ⟨cb, 0, none⟩ = some (.string id)) (c1 : w.cell? ⟨cb, 1, none⟩ = some (.pointer (some ⟨b, 0, none⟩))) (c33 : w.cell? ⟨cb, 33, none⟩ = some (.slice sa sn sc)) (c37 : w.cell? ⟨cb, 37, none⟩ = some (.bool pend))
    (c38 : w.cell? ⟨cb, 38, none⟩ = some u38) (f37 : w.frozen? ⟨cb, 37, none⟩ = false) (f38 : w.frozen? ⟨cb, 38, none⟩ = false) (hp : Pairs w sa sn SA SB) (hb0 : w.cell? ⟨b, 0, none⟩ = some (.pointer none))
    (hr : Calls Ybad.prog 6 #[.pointer (some ⟨b, 0, none⟩), .string id] w.drew (Routed w b ch0 m RA RB)) :
    Calls Ybad.prog 5 #[.pointer (some ⟨cb, 0, none⟩)] w fun e w' => ∃ ch r, e = .returned (.tuple #[]) ∧ (r = true ↔ (m = sn ∧ Same m RA RB SA SB)) ∧ (∀ c0, ch0 = some c0 → ch = c0) ∧
      w'.cell? ⟨b, 11, none⟩ = some (.chan (some ch)) ∧ w'.cell? ⟨cb, 38, none⟩ = some (.chan (some ch)) ∧ w'.cell? ⟨cb, 37, none⟩ = some (.bool (pend || !r)) ∧ w'.cell? ⟨cb, 33, none⟩ = some (.slice sa sn sc) ∧ Below N w w' := by
  have hcb := cell_lt c0
  have HP : Hid (Pairs w sa sn SA SB) := hp
  have HR : Hid (Calls Ybad.prog 6 #[.pointer (some ⟨b, 0, none⟩), .string id] w.drew (Routed w b ch0 m RA RB)) := hr
  have hcn : some cb ≠ some b := fun h => hne (Option.some.inj h)
  clear hp hr
  go_enter Ybad.func5, Ybad.ntmps5
  go_wp2_with fail
  go_region_held3 (fun w' => w'.cell? ⟨cb, 0, none⟩ = some (.string id) ∧ w'.cell? ⟨cb, 1, none⟩ = some (.pointer (some ⟨b, 0, none⟩))) (first | exact ⟨c0, c1⟩ | exact ⟨hg1.cell c0 hcn, hg1.cell c1 hcn⟩)
    (first | (go_at_call 6; refine HR.out.mono ?_; rintro e w1 ⟨a, c, ch, rfl, hp1, hnew, hch, h11, hg1⟩))
  have k33 := hg1.cell c33 hcn
  have k37 := hg1.cell c37 hcn
  have k38 := hg1.cell c38 hcn
  have g37 : w1.frozen? ⟨cb, 37, none⟩ = false := (World.frozen?_of_block (a := ⟨cb, 37, none⟩) (hg1.block cb hcb hcn)).trans f37
  have g38 : w1.frozen? ⟨cb, 38, none⟩ = false := (World.frozen?_of_block (a := ⟨cb, 38, none⟩) (hg1.block cb hcb hcn)).trans f38
  have hps := HP.out.grown' hg1 hb0 (by simp)
  have k0 := hg1.cell c0 hcn
  clear HR HP c0 c1 c33 c37 c38 f37 f38
  go_wp2_with fail
  have hgs := gb_set w1 cb 38 (.chan (some ch))
  have hcb1 : cb < w1.heap.size := Nat.lt_of_lt_of_le hcb hg1.size
  refine (equal_any a sa m c sn sc RA RB SA SB _ hm hs (hp1.grown hgs (fun g e => by have := hnew g e; omega)) (hps.grown' hgs k0 (by simp))).mono ?_
  rintro e w2 ⟨r, rfl, hr, hb2⟩
  have hz : cb < (w1.setCell ⟨cb, 38, none⟩ (.chan (some ch))).heap.size := by rw [setCell_size]; exact hcb1
  have hzb : b < (w1.setCell ⟨cb, 38, none⟩ (.chan (some ch))).heap.size := by rw [setCell_size]; exact cell_lt h11
  have e38 : w2.cell? ⟨cb, 38, none⟩ = some (.chan (some ch)) := (hb2.cell (p := ⟨cb, 38, none⟩) hz).trans (World.cell?_setCell_same _ _ _ k38)
  have e37 : w2.cell? ⟨cb, 37, none⟩ = some (.bool pend) := (hb2.cell (p := ⟨cb, 37, none⟩) hz).trans ((World.cell?_setCell_other _ _ _ _ (by simp)).trans k37)
  have e33 : w2.cell? ⟨cb, 33, none⟩ = some (.slice sa sn sc) := (hb2.cell (p := ⟨cb, 33, none⟩) hz).trans ((World.cell?_setCell_other _ _ _ _ (by simp)).trans k33)
  have e11 : w2.cell? ⟨b, 11, none⟩ = some (.chan (some ch)) := (hb2.cell (p := ⟨b, 11, none⟩) hzb).trans ((World.cell?_setCell_other _ _ _ _ (fun hh => hne (Addr.mk.inj hh).1)).trans h11)
  have z37 : w2.frozen? ⟨cb, 37, none⟩ = false := (hb2.frozen (p := ⟨cb, 37, none⟩) hz).trans (by rw [World.frozen?_setCell]; exact g37)
  have hlow : Below N w w2 := by
    have l1 : Below N w w1 := gb_below_low hg1 (by omega) hNb
    exact (l1.setCell (p := ⟨cb, 38, none⟩) hNc _).trans (hb2.mono (by omega))
  have HR : Hid (r = true ↔ (m = sn ∧ Same m RA RB SA SB)) := hr
  clear hr hgs hps hp1 k33 k37 k38 g37 g38 hb2 hg1 h11
  cases r
  · go_wp2_with fail
    go_end0
    refine ⟨ch, false, rfl, HR.out, hch, (World.cell?_setCell_other _ _ _ _ (fun hh => hne (Addr.mk.inj hh).1)).trans e11, (World.cell?_setCell_other _ _ _ _ (by simp)).trans e38, ?_, (World.cell?_setCell_other _ _ _ _ (by simp)).trans e33, hlow.setCell (p := ⟨cb, 37, none⟩) hNc _⟩
    rw [World.cell?_setCell_same _ _ _ e37]
    simp
  · go_wp2_with fail
    go_end0
    exact ⟨ch, true, rfl, ⟨fun _ => HR.out.1 trivial, fun _ => rfl⟩, hch, e11, e38, by rw [e37]; simp, e33, hlow⟩

end Go.Proofs.YbulkavwwDoor
