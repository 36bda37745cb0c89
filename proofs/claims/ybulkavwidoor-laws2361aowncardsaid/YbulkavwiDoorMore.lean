/-
  The walk of childrenOf among more than sixteen.
-/
import Derived.Test.YbulkavwiDoorMany
namespace Go.Proofs.YbulkavwiDoor
open Go.RowKit
set_option linter.unusedSimpArgs false
set_option linter.unusedVariables false
attribute [local go_sem ↓] Go.wp_at_zero Go.wp_at_succ

def lenOf : Value → Nat
  | .slice _ n _ => n
  | _ => 0

set_option maxRecDepth 100000 in
set_option maxHeartbeats 2000000 in
theorem children_many (pb nb mb n c a : Nat) (ca : Option Addr) (kid sch : Nat → Nat) (w : World) (t : Tree w pb nb mb ca n c a kid sch) (h17 : 16 < n)
    (h3 : w.cell? ⟨pb, 3, none⟩ = some (.map none)) (f3 : w.frozen? ⟨pb, 3, none⟩ = false) (hmp : mb ≠ pb) (hnp : nb ≠ pb) :
    Calls Ybad.prog 20 #[.pointer (some ⟨pb, 0, none⟩), .pointer (some ⟨nb, 0, none⟩)] w fun e w' => ∃ sl, e = .returned sl ∧ Own ca a n sl ∧ Turn pb w w' := by
  obtain ⟨hn, hc, hm, ha, hK, hs, hcell, hne, wm, wn, sm, sn⟩ := t
  obtain ⟨g, rfl⟩ := hs (by omega)
  have hk := hK g rfl
  have hgp : g ≠ pb := by
    rintro rfl
    have := (hk 2 (by omega)).1
    simp only [Nat.zero_add] at this
    rw [hcell] at this
    cases this
  have lp := cell_lt hcell
  have HK : Hid (Kids w g 0 n kid sch) := hk
  have HM : Hid (∀ W, Turn pb w W → Whole W mb ∧ Whole W nb) := fun W hW => ⟨hW.whole wm hmp, hW.whole wn hnp⟩
  have HSM : Hid (∀ k, k < a → sch k = mb) := sm
  have HSN : Hid (∀ k, a ≤ k → k < n → sch k = nb) := sn
  have g16 : decide ((n : Int) ≤ 16) = false := by simp; omega
  clear hK hs hk sm sn wm wn
  have mm := @run_makeMap Ybad.prog
  have eqm := fun (W : World) (r : Option Nat) => run_eql_map_nil (P := Ybad.prog) W 41 23 40 r Ybad.underlying41
  go_enter Ybad.func20, Ybad.ntmps20
  go_wp2_with fail
  have T0 : Turn pb w (((w.setCell ⟨pb, 3, none⟩ (.map (some (w.heap.size + 1)))).alloc (.cells #[.pointer (some ⟨nb, 0, none⟩)] 23)).alloc (.map #[] 0)) :=
    (((Turn.of_below (Below.refl _ _) lp).set _).below lp ((Below.refl _ _).alloc (Nat.le_refl _) _)).below lp ((Below.refl _ _).alloc (Nat.le_refl _) _)
  have c3 : (((w.setCell ⟨pb, 3, none⟩ (.map (some (w.heap.size + 1)))).alloc (.cells #[.pointer (some ⟨nb, 0, none⟩)] 23)).alloc (.map #[] 0)).cell? ⟨pb, 3, none⟩ = some (.map (some (w.heap.size + 1))) := by
    rw [World.cell?_alloc_lt _ _ _ (by rw [World.size_alloc]; simp [World.setCell]; omega), World.cell?_alloc_lt _ _ _ (by simpa [World.setCell] using lp)]
    exact World.cell?_setCell_same _ _ _ h3
  have c0 : (((w.setCell ⟨pb, 3, none⟩ (.map (some (w.heap.size + 1)))).alloc (.cells #[.pointer (some ⟨nb, 0, none⟩)] 23)).alloc (.map #[] 0)).cell? ⟨w.heap.size, 0, none⟩ = some (.pointer (some ⟨nb, 0, none⟩)) := by go_simp
  have hmap : (((w.setCell ⟨pb, 3, none⟩ (.map (some (w.heap.size + 1)))).alloc (.cells #[.pointer (some ⟨nb, 0, none⟩)] 23)).alloc (.map #[] 0)).heap[w.heap.size + 1]? = some (.map #[] 0) := by
    have := World.alloc_heap_new ((w.setCell ⟨pb, 3, none⟩ (.map (some (w.heap.size + 1)))).alloc (.cells #[.pointer (some ⟨nb, 0, none⟩)] 23)) (.map #[] 0)
    rw [World.size_alloc] at this
    simpa [World.setCell] using this
  generalize (((w.setCell ⟨pb, 3, none⟩ (.map (some (w.heap.size + 1)))).alloc (.cells #[.pointer (some ⟨nb, 0, none⟩)] 23)).alloc (.map #[] 0)) = W0 at *
  have HT0 : Hid (Turn pb w W0) := T0
  clear T0
  go_loopw [6, 7] (fun rest _ wr => ∃ (o o' L C : Nat) (es : Array MapEntry) (cl : Nat), rest = .slice (some ⟨g, o', none⟩) L C ∧ (0 < L → o' = o) ∧ o + L = n ∧ L ≤ C ∧ C ≤ maxLen ∧ Done g a n mb nb o es cl ∧ Turn pb w wr ∧
      wr.cell? ⟨pb, 3, none⟩ = some (.map (some (w.heap.size + 1))) ∧ wr.cell? ⟨w.heap.size, 0, none⟩ = some (.pointer (some ⟨nb, 0, none⟩)) ∧ wr.heap[w.heap.size + 1]? = some (.map es cl)) (fun rest _ _ => lenOf rest)
  case atStart => exact ⟨0, 0, n, c, #[], 0, rfl, fun _ => rfl, by omega, hc, hm, .inl ⟨rfl, by omega, rfl, rfl⟩, HT0.out, c3, c0, hmap⟩
  case round =>
    obtain ⟨o, o', L, C, es, cl, rfl, hoo, hoL, hLC, hCm, hD, hT, r3, r0, rm⟩ := hrel
    have HT : Hid (Turn pb w wr) := hT
    have HD : Hid (Done g a n mb nb o es cl) := hD
    have lpr : pb < wr.heap.size := cell_lt r3
    have l0r : w.heap.size < wr.heap.size := cell_lt r0
    have lmr : w.heap.size + 1 < wr.heap.size := (Array.getElem?_eq_some_iff.1 rm).1
    clear hT hD HT0 c3 c0 hmap
    by_cases hL : 0 < L
    · have hoe := hoo hL
      subst o'
      clear hoo
      obtain ⟨e, s, es', cl', he1, hen, hD', hcase, hup⟩ := HD.out.step (by omega) ha hne
      have HD' : Hid (Done g a n mb nb (o + e) es' cl') := hD'
      have hk := HT.out.kids HK.out hgp
      obtain ⟨x0, x1⟩ := hk o (by omega)
      simp only [Nat.zero_add] at x0
      have hso : sch o = s := by
        rcases hcase with ⟨rfl, h0, rfl, rfl⟩ | ⟨rfl, rfl, rfl⟩
        · exact HSM.out 0 h0
        · exact HSN.out o (Nat.le_refl _) (by omega)
      rw [hso] at x1
      have HFR : Hid (Calls Ybad.prog 26 #[.slice (some ⟨g, o, none⟩) L C] wr fun r w' => r = .returned (.slice (some ⟨g, o, none⟩) e e) ∧ Below wr.heap.size wr w') := by
        refine firstRun_any g o L C e (fun k => kid (o + k)) (fun k => sch (o + k)) wr (by omega) hLC he1 (by omega) (fun k hk' => by have := hk (o + k) (by omega); simpa [Nat.zero_add] using this) ?_ ?_
        · intro k hke
          rcases hcase with ⟨rfl, h0, rfl, rfl⟩ | ⟨rfl, rfl, rfl⟩
          · rw [HSM.out (0 + k) (by omega), HSM.out (0 + 0) (by omega)]
          · rw [HSN.out (o + k) (by omega) (by omega), HSN.out (o + 0) (by omega) (by omega)]
        · intro heL
          rcases hcase with ⟨rfl, h0, rfl, rfl⟩ | ⟨rfl, rfl, rfl⟩
          · rw [HSM.out (0 + 0) (by omega), HSN.out (0 + e) (by omega) (by omega)]
            exact ⟨hne.symm, (HM.out _ HT.out).2, (HM.out _ HT.out).1⟩
          · omega
      clear hk hcase hso hD'
      generalize kid o = x at *
      have lgx := cell_lt x0
      have lxx := cell_lt x1
      have hLi : (0 : Int) < (L : Int) := by omega
      have he0 : 0 < e := by omega
      have he0' : (0 : Int) < (e : Int) := by omega
      have heL : e ≤ L := by omega
      go_wp2_with (go_at_call 26; refine HFR.out.mono ?_; clear HFR; rintro r w1 ⟨rfl, hb1⟩)
      have T1 : Turn pb w w1 := HT.out.below lp hb1
      obtain ⟨⟨cA, tA, hA⟩, ⟨cB, tB, hB⟩⟩ := HM.out w1 T1
      have y3 := (hb1.cell (p := ⟨pb, 3, none⟩) lpr).trans r3
      have y0 := (hb1.cell (p := ⟨g, o, none⟩) lgx).trans x0
      have y1 := (hb1.cell (p := ⟨x, 0, none⟩) lxx).trans x1
      have yb := (hb1.cell (p := ⟨w.heap.size, 0, none⟩) l0r).trans r0
      have ym := (hb1.block (w.heap.size + 1) lmr).trans rm
      have q := hup w1.drew ⟨cA, tA, hA⟩ ⟨cB, tB, hB⟩ (w.heap.size + 1) ym
      have HT1 : Hid (Turn pb w w1) := T1
      have ngm : g ≠ w.heap.size + 1 := by rintro rfl; unfold World.cell? at y0; rw [ym] at y0; cases y0
      have nxm : x ≠ w.heap.size + 1 := by rintro rfl; unfold World.cell? at y1; rw [ym] at y1; cases y1
      have npm : pb ≠ w.heap.size + 1 := by omega
      clear hup x0 x1 r3 r0 rm T1 HM HT hA hB
      go_region_held3 (fun w' => w'.cell? ⟨pb, 3, none⟩ = some (.map (some (w.heap.size + 1))) ∧ w'.cell? ⟨g, o, none⟩ = some (.pointer (some ⟨x, 0, none⟩)) ∧ w'.cell? ⟨x, 0, none⟩ = some (.pointer (some ⟨s, 0, none⟩))) (first | exact ⟨y3, y0, y1⟩ | exact ⟨(cell_put npm).trans y3, (cell_put ngm).trans y0, (cell_put nxm).trans y1⟩) (fail)
      have lmr1 : w.heap.size + 1 < w1.drew.heap.size := (Array.getElem?_eq_some_iff.1 ym).1
      have z3 : (w1.drew.putObj (w.heap.size + 1) (.map es' cl')).cell? ⟨pb, 3, none⟩ = some (.map (some (w.heap.size + 1))) := (cell_put npm).trans y3
      have zb : (w1.drew.putObj (w.heap.size + 1) (.map es' cl')).cell? ⟨w.heap.size, 0, none⟩ = some (.pointer (some ⟨nb, 0, none⟩)) := (cell_put (by omega)).trans yb
      have zm : (w1.drew.putObj (w.heap.size + 1) (.map es' cl')).heap[w.heap.size + 1]? = some (.map es' cl') := World.putObj_heap_same lmr1
      have HT2 : Hid (Turn pb w (w1.drew.putObj (w.heap.size + 1) (.map es' cl'))) := (HT1.out.below lp ((Below.refl _ _).drew)).put lp (by omega) _
      clear q y3 y0 y1 yb ym HT1 hb1
      generalize w1.drew.putObj (w.heap.size + 1) (.map es' cl') = W2 at *
      go_wp2_with fail
      go_roundw
      case rel =>
        by_cases hCe : C = e
        · rw [if_pos hCe]
          exact ⟨o + e, o, L - e, C - e, es', cl', rfl, fun h => by omega, by omega, by omega, by omega, HD'.out, HT2.out, z3, zb, zm⟩
        · rw [if_neg hCe]
          exact ⟨o + e, o + e, L - e, C - e, es', cl', rfl, fun _ => rfl, by omega, by omega, by omega, HD'.out, HT2.out, z3, zb, zm⟩
      case measure => simp [lenOf]; omega
    · obtain rfl : L = 0 := by omega
      obtain rfl : o = n := by omega
      obtain ⟨wm, wn⟩ := HM.out _ HT.out
      have q := HD.out.look ha hne wr.drew (wm.grown ((Below.refl _ _).drew)) (wn.grown ((Below.refl _ _).drew)) (w.heap.size + 1) rm
      by_cases hlt : a < o
      · rw [if_pos hlt] at q
        go_wp2_with fail
        go_region_held3 (fun w' => w'.cell? ⟨pb, 3, none⟩ = some (.map (some (w.heap.size + 1))) ∧ w'.cell? ⟨w.heap.size, 0, none⟩ = some (.pointer (some ⟨nb, 0, none⟩))) (first | exact ⟨r3, r0⟩) (fail)
        go_wp2_with fail
        go_ret
        exact ⟨_, rfl, ⟨_, _, rfl, fun _ => ⟨g, rfl, rfl⟩⟩, HT.out.below lp ((Below.refl _ _).drew)⟩
      · rw [if_neg hlt] at q
        go_wp2_with fail
        go_region_held3 (fun w' => w'.cell? ⟨pb, 3, none⟩ = some (.map (some (w.heap.size + 1))) ∧ w'.cell? ⟨w.heap.size, 0, none⟩ = some (.pointer (some ⟨nb, 0, none⟩))) (first | exact ⟨r3, r0⟩) (fail)
        go_wp2_with fail
        go_ret
        have e0 : o - a = 0 := by omega
        exact ⟨_, rfl, ⟨none, 0, congrArg (fun k => Value.slice none k 0) e0.symm, fun h => absurd h hlt⟩, HT.out.below lp ((Below.refl _ _).drew)⟩

end Go.Proofs.YbulkavwiDoor
