/-
  depth, slices.Reverse of a row of one, below.
-/
import Derived.Test.YbulkavwiDoorMaps
import Derived.OwnWalk
import Derived.BigQuiet
import Derived.Deep.DrawnRows
import Derived.Deep.QuietTactic
import Derived.Conc.SmallLaws
namespace Go.Proofs.YbulkavwiDoor
open Go.RowKit
set_option linter.unusedSimpArgs false
set_option linter.unusedVariables false
attribute [local go_sem ↓] Go.wp_at_zero Go.wp_at_succ

theorem cell_lt {w : World} {b o : Nat} {v : Value} (h : w.cell? ⟨b, o, none⟩ = some v) : b < w.heap.size := by
  unfold World.cell? at h
  cases hh : w.heap[b]? with
  | none => simp [hh] at h
  | some x => exact (Array.getElem?_eq_some_iff.1 hh).1

set_option maxHeartbeats 400000 in
theorem depth_root (b : Nat) (w : World) (h : w.cell? ⟨b, 5, none⟩ = some (.pointer none)) :
    Calls Ybad.prog 16 #[.pointer (some ⟨b, 0, none⟩)] w fun e w' => e = .returned (.int .i64 0) ∧ w' = w := by
  go_enter Ybad.func16, Ybad.ntmps16
  go_wp2_with fail
  go_loopw [3, 4] (fun d p wr => d = .int .i64 0 ∧ p = .pointer (some ⟨b, 0, none⟩) ∧ wr = w) (fun _ _ _ => 0)
  case atStart => exact ⟨rfl, rfl, rfl⟩
  case round =>
    obtain ⟨rfl, rfl, rfl⟩ := hrel
    go_wp2_with fail
    go_ret
    exact ⟨rfl, rfl⟩

set_option maxHeartbeats 400000 in
theorem depth_child (b r : Nat) (w : World) (h : w.cell? ⟨b, 5, none⟩ = some (.pointer (some ⟨r, 0, none⟩))) (h2 : w.cell? ⟨r, 5, none⟩ = some (.pointer none)) :
    Calls Ybad.prog 16 #[.pointer (some ⟨b, 0, none⟩)] w fun e w' => e = .returned (.int .i64 1) ∧ w' = w := by
  go_enter Ybad.func16, Ybad.ntmps16
  go_wp2_with fail
  go_loopw [3, 4] (fun d p wr => ((d = .int .i64 0 ∧ p = .pointer (some ⟨b, 0, none⟩)) ∨ (d = .int .i64 1 ∧ p = .pointer (some ⟨r, 0, none⟩))) ∧ wr = w) (fun d _ _ => 1 - (intOf d).toNat)
  case atStart => exact ⟨.inl ⟨rfl, rfl⟩, rfl⟩
  case round =>
    obtain ⟨⟨rfl, rfl⟩ | ⟨rfl, rfl⟩, rfl⟩ := hrel
    · go_wp2_with fail
      go_roundw
      case rel => exact ⟨.inr ⟨rfl, rfl⟩, by trivial⟩
      case measure => simp [intOf]
    · go_wp2_with fail
      go_ret
      exact ⟨rfl, rfl⟩

set_option maxHeartbeats 400000 in
theorem reverse_one (a : Option Addr) (c : Nat) (w : World) :
    Calls Ybad.prog 17 #[.slice a 1 c] w fun e w' => e = .returned (.tuple #[]) ∧ w' = w := by
  go_enter Ybad.func17, Ybad.ntmps17
  go_wp2_with fail
  go_loopw [2, 3] (fun i j wr => i = .int .i64 0 ∧ j = .int .i64 0 ∧ wr = w) (fun _ _ _ => 0)
  case atStart => exact ⟨rfl, rfl, rfl⟩
  case round =>
    obtain ⟨rfl, rfl, rfl⟩ := hrel
    go_wp2_with fail
    go_end0
    exact ⟨rfl, rfl⟩

theorem Ybad.info23 : (Ybad.prog.info? 23).map (fun i => (i.zero, i.size, i.bytes)) = some (some (.pointer none), 1, 8) := by kernel_rfl
theorem Ybad.info39 : (Ybad.prog.info? 39).map (fun i => (i.zero, i.size, i.bytes)) = some (some (.pointer none), 1, 8) := by kernel_rfl

/-- Behind an append that had to make a new row. -/
theorem app_keep {wr w2 : World} {o : Obj} (hg : (wr.alloc o).drew.grownBy w2 none) : Below wr.heap.size wr w2 :=
  (((Below.refl _ _).alloc (Nat.le_refl _) o).drew).grown hg (by show wr.heap.size ≤ (wr.alloc o).heap.size; rw [World.size_alloc]; omega) (fun k hk => by cases hk)

theorem own_cell {w : World} {base e g k c j : Nat} {xs : List Value} {u : Value} (ho : w.ownsRow base e 1 (.slice (some ⟨g, 0, none⟩) k c) k xs) (hj : xs[j]? = some u) : w.cell? ⟨g, j, none⟩ = some u := by
  have hc := ho.cells (g := g) rfl j u hj
  have hadd : (⟨g, 0, none⟩ : Addr).add j = ⟨g, j, none⟩ := by unfold Addr.add; split <;> simp_all
  rw [hadd] at hc
  exact hc

set_option maxRecDepth 100000 in
set_option maxHeartbeats 1000000 in
theorem below_any (pb nb rb : Nat) (w : World) (h0 : w.cell? ⟨pb, 0, none⟩ = some (.pointer (some ⟨rb, 0, none⟩))) (hn : w.cell? ⟨nb, 5, none⟩ = some (.pointer (some ⟨rb, 0, none⟩))) (hr : w.cell? ⟨rb, 5, none⟩ = some (.pointer none)) :
    Calls Ybad.prog 11 #[.pointer (some ⟨pb, 0, none⟩), .pointer (some ⟨nb, 0, none⟩)] w fun e w' => ∃ b1 b2 g c, e = .returned (.func (.func 18) #[] #[.pointer (some ⟨b1, 0, none⟩), .pointer (some ⟨b2, 0, none⟩)]) ∧
      w'.cell? ⟨b1, 0, none⟩ = some (.pointer (some ⟨pb, 0, none⟩)) ∧ w'.cell? ⟨b2, 0, none⟩ = some (.slice (some ⟨g, 0, none⟩) 1 c) ∧ w'.cell? ⟨g, 0, none⟩ = some (.pointer (some ⟨nb, 0, none⟩)) ∧ Below w.heap.size w w' := by
  obtain ⟨i0, hi, hz0, hz1, hz2⟩ := info_parts Ybad.info23
  have lp := cell_lt h0
  have ln := cell_lt hn
  have lr := cell_lt hr
  go_enter Ybad.func11, Ybad.ntmps11
  go_wp2_with fail
  have hne : nb ≠ rb := by
    rintro rfl
    rw [hn] at hr
    cases hr
  have hb0 : Below w.heap.size w ((w.alloc (.cells #[.pointer (some ⟨pb, 0, none⟩)] 39)).alloc (.cells #[.slice none 0 0] 26)) := ((Below.refl _ _).alloc (Nat.le_refl _) _).alloc (by rw [World.size_alloc]; omega) _
  have e0 : ((w.alloc (.cells #[.pointer (some ⟨pb, 0, none⟩)] 39)).alloc (.cells #[.slice none 0 0] 26)).cell? ⟨w.heap.size, 0, none⟩ = some (.pointer (some ⟨pb, 0, none⟩)) := by go_simp
  have e1 : ((w.alloc (.cells #[.pointer (some ⟨pb, 0, none⟩)] 39)).alloc (.cells #[.slice none 0 0] 26)).cell? ⟨w.heap.size + 1, 0, none⟩ = some (.slice none 0 0) := by go_simp
  have e2 : ((w.alloc (.cells #[.pointer (some ⟨pb, 0, none⟩)] 39)).alloc (.cells #[.slice none 0 0] 26)).frozen? ⟨w.heap.size + 1, 0, none⟩ = false := by go_simp
  generalize ((w.alloc (.cells #[.pointer (some ⟨pb, 0, none⟩)] 39)).alloc (.cells #[.slice none 0 0] 26)) = w1 at *
  go_loopw [6] (fun c wr => wr.cell? ⟨w.heap.size, 0, none⟩ = some (.pointer (some ⟨pb, 0, none⟩)) ∧ Below w.heap.size w wr ∧
      ((c = .pointer (some ⟨nb, 0, none⟩) ∧ wr.cell? ⟨w.heap.size + 1, 0, none⟩ = some (.slice none 0 0) ∧ wr.frozen? ⟨w.heap.size + 1, 0, none⟩ = false) ∨
       (c = .pointer (some ⟨rb, 0, none⟩) ∧ ∃ g cc, wr.cell? ⟨w.heap.size + 1, 0, none⟩ = some (.slice (some ⟨g, 0, none⟩) 1 cc) ∧ wr.cell? ⟨g, 0, none⟩ = some (.pointer (some ⟨nb, 0, none⟩))))) (fun c _ => match c with | .pointer (some a) => if a.block = nb then 1 else 0 | _ => 0)
  case atStart => exact ⟨e0, hb0, .inl ⟨rfl, e1, e2⟩⟩
  case round =>
    obtain ⟨k0, hb, ⟨rfl, k1, k2⟩ | ⟨rfl, g, cc, k1, k2⟩⟩ := hrel
    · have j0 := (hb.cell (p := ⟨pb, 0, none⟩) lp).trans h0
      have jn := (hb.cell (p := ⟨nb, 5, none⟩) ln).trans hn
      have jr := (hb.cell (p := ⟨rb, 5, none⟩) lr).trans hr
      clear e0 e1 e2 hb0 h0 hn hr
      go_wp2_with fail
      go_region_held3 (fun w' => w'.cell? ⟨w.heap.size, 0, none⟩ = some (.pointer (some ⟨pb, 0, none⟩)) ∧ w'.cell? ⟨pb, 0, none⟩ = some (.pointer (some ⟨rb, 0, none⟩))) (first | go_keep)
        (first | (go_at_call_of 16 (Value.pointer (some ⟨nb, 0, none⟩)); refine (depth_child nb rb _ (by exact jn) (by exact jr)).mono ?_; rintro e w' ⟨rfl, rfl⟩)
               | (go_at_call_of 16 (Value.pointer (some ⟨rb, 0, none⟩)); refine (depth_root rb _ (by exact jr)).mono ?_; rintro e w' ⟨rfl, rfl⟩))
      clear j0 jr
      have hbs : w.heap.size ≤ wr.heap.size := hb.size
      have q1 : w.heap.size + 1 < wr.heap.size := cell_lt k1
      have qn : nb < wr.heap.size := cell_lt jn
      have q0 : w.heap.size < wr.heap.size := cell_lt k0
      go_wp2_with (at_builtin; refine wpList_append_own _ rfl _ _ 26 rfl w.heap.size 23 i0 (.pointer none) 1 8 Ybad.underlying26 hi hz0 hz1 hz2 rfl (by decide) _ 0 [] rfl (World.ownsRow_nil _ _ _ _) ⟨wr.heap.size, 0, none⟩ 1 1 [.pointer (some ⟨nb, 0, none⟩)] rfl rfl (cell_one_new _ _ _) (by simp [Value.oneCell']) (by decide) (by decide) (by go_simp; omega) ?_; intro v' w2 ho hg _; obtain ⟨g', cap', rfl⟩ := ownsRow_succ ho; have hB2 : Below wr.heap.size wr w2 := app_keep hg; clear hg; have m1 := (hB2.cell (p := ⟨w.heap.size + 1, 0, none⟩) q1).trans k1; have m2 := (hB2.frozen (p := ⟨w.heap.size + 1, 0, none⟩) q1).trans k2; have m3 := (hB2.cell (p := ⟨nb, 5, none⟩) qn).trans jn; have m4 := own_cell (j := 0) ho rfl)
      have hg2 : g' ≠ w.heap.size + 1 := by
        rintro rfl
        rw [m1] at m4
        cases m4
      have m0 := (hB2.cell (p := ⟨w.heap.size, 0, none⟩) q0).trans k0
      have hfin : Below w.heap.size w w2 := hb.trans (hB2.mono hbs)
      go_roundw
      case rel =>
        refine ⟨(World.cell?_setCell_other _ _ _ _ (by simp)).trans m0, hfin.setCell (p := ⟨w.heap.size + 1, 0, none⟩) (by simp) _, .inr ⟨rfl, g', cap', World.cell?_setCell_same _ _ _ m1, (World.cell?_setCell_other _ _ _ _ (fun hh => hg2 (Addr.mk.inj hh).1.symm)).trans m4⟩⟩
      case measure => simp [hne.symm]
    · have j0 := (hb.cell (p := ⟨pb, 0, none⟩) lp).trans h0
      have jr := (hb.cell (p := ⟨rb, 5, none⟩) lr).trans hr
      clear e0 e1 e2 hb0 h0 hn hr
      go_wp2_with fail
      go_region_held3 (fun w' => w'.cell? ⟨w.heap.size, 0, none⟩ = some (.pointer (some ⟨pb, 0, none⟩)) ∧ w'.cell? ⟨pb, 0, none⟩ = some (.pointer (some ⟨rb, 0, none⟩))) (first | go_keep)
        (first | (go_at_call_of 16 (Value.pointer (some ⟨rb, 0, none⟩)); refine (depth_root rb _ (by exact jr)).mono ?_; rintro e w' ⟨rfl, rfl⟩))
      go_wp2_with (go_at_call 17; refine (reverse_one _ _ _).mono ?_; rintro e w' ⟨rfl, rfl⟩)
      go_ret
      exact ⟨_, _, g, cc, rfl, k0, k1, k2, hb.drew⟩

end Go.Proofs.YbulkavwiDoor
