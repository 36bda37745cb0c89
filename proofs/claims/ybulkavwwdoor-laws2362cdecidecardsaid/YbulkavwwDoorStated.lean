/-
  The walk of stated.
-/
import Derived.Test.YbulkavwwDoorCells
namespace Go.Proofs.YbulkavwwDoor
open Go.RowKit

theorem Ybad.info54 : (Ybad.prog.info? 54).map (fun i => (i.zero, i.size, i.bytes)) = some (some (.agg #[.int .i64 0, .int .i64 0]), 2, 16) := by kernel_rfl
theorem Ybad.info56 : (Ybad.prog.info? 56).map (fun i => (i.zero, i.size, i.bytes)) = some (some (.agg #[.int .i64 0, .int .i64 0, .string ⟨#[]⟩]), 3, 32) := by kernel_rfl

/-- What is stated of node k: unreachable through the circuit itself. -/
def stA (id : ByteArray) (A : Nat → Int) (S : Nat → ByteArray) (k : Nat) : Int := if ((S k).toList == id.toList) = true then 31 else A k
def stB (id : ByteArray) (B : Nat → Int) (S : Nat → ByteArray) (k : Nat) : Int := if ((S k).toList == id.toList) = true then 1023 else B k

/-- The variable 'routing.Unreachable'. -/
def Unr (w : World) : Prop := w.cell? ⟨0, 0, none⟩ = some (.int .i64 31) ∧ w.cell? ⟨0, 1, none⟩ = some (.int .i64 1023)

theorem Unr.below {w w' : World} (h : Unr w) (hb : Below w.heap.size w w') : Unr w' :=
  ⟨(hb.cell (p := ⟨0, 0, none⟩) (cell_lt h.1)).trans h.1, (hb.cell (p := ⟨0, 1, none⟩) (cell_lt h.1)).trans h.2⟩

theorem fill_round {w wr : World} {N n k : Nat} {A B : Nat → Int} {a b : Int} (hF : Fill wr N n k A B) (hk : k < n) (eA : A k = a) (eB : B k = b) (hz : N < wr.heap.size) (hN : w.heap.size ≤ N) (hb : Below w.heap.size w wr) (o : Obj) :
    Fill (((wr.setCell ⟨N, k * 2, none⟩ (.int .i64 a)).setCell ⟨N, k * 2 + 1, none⟩ (.int .i64 b)).alloc o) N n (k + 1) A B ∧ N < (((wr.setCell ⟨N, k * 2, none⟩ (.int .i64 a)).setCell ⟨N, k * 2 + 1, none⟩ (.int .i64 b)).alloc o).heap.size ∧
      Below w.heap.size w (((wr.setCell ⟨N, k * 2, none⟩ (.int .i64 a)).setCell ⟨N, k * 2 + 1, none⟩ (.int .i64 b)).alloc o) := by
  have R := hF.step hk
  rw [eA, eB] at R
  have hz2 : N < ((wr.setCell ⟨N, k * 2, none⟩ (.int .i64 a)).setCell ⟨N, k * 2 + 1, none⟩ (.int .i64 b)).heap.size := by simpa [World.setCell] using hz
  have hb2 : Below w.heap.size w ((wr.setCell ⟨N, k * 2, none⟩ (.int .i64 a)).setCell ⟨N, k * 2 + 1, none⟩ (.int .i64 b)) := (hb.setCell hN _).setCell hN _
  exact ⟨R.alloc hz2 o, by rw [World.size_alloc]; omega, hb2.alloc hb2.size o⟩

set_option maxRecDepth 100000 in
set_option maxHeartbeats 1000000 in
theorem stated_any (g n c : Nat) (A B : Nat → Int) (S : Nat → ByteArray) (id : ByteArray) (w : World) (hn : n ≤ 1024) (hg : g < w.heap.size) (h3 : Fill3 w g n n A B S) (hu : Unr w) :
    Calls Ybad.prog 11 #[.slice (some ⟨g, 0, none⟩) n c, .int .i64 ((n : Int) - 1), .string id] w fun e w' =>
      e = .returned (.slice (some ⟨w.heap.size, 0, none⟩) n n) ∧ Fill w' w.heap.size n n (stA id A S) (stB id B S) ∧ w.heap.size < w'.heap.size ∧ Below w.heap.size w w' := by
  obtain ⟨i0, hi, hz0, hz1, hz2⟩ := info_parts Ybad.info54
  have H3 : Hid (Fill3 w g n n A B S) := h3
  have HU : Hid (Unr w) := hu
  clear h3 hu
  go_enter Ybad.func11, Ybad.ntmps11
  go_wp2_with (at_make; refine wpList_make_full _ rfl _ _ 50 rfl w.heap.size 54 i0 (.agg #[.int .i64 0, .int .i64 0]) 2 Ybad.underlying50 hi hz0 hz1 .i64 .i64 _ _ n rfl rfl (by omega) (by omega) (by rw [hz2]; omega) (by unfold maxLen; omega) (Nat.le_refl _) ?_; intro w1 ho1 hg1)
  obtain ⟨hN, f, hf⟩ := cells_of_owns ho1
  have hb1 : Below w.heap.size w w1 := (Below.refl _ _).grown hg1 (Nat.le_refl _) (fun k hk => by cases hk)
  have F0 : Hid (Fill w1 w.heap.size n 0 (stA id A S) (stB id B S)) := Fill.zero hf _ _
  clear ho1 hg1 hf hi hz0 hz1 hz2
  go_loopw [15] (fun i wr => ∃ k : Nat, k ≤ n ∧ i = .int .i64 k ∧ Fill wr w.heap.size n k (stA id A S) (stB id B S) ∧ w.heap.size < wr.heap.size ∧ Below w.heap.size w wr) (fun i _ => n - (intOf i).toNat)
  case atStart => exact ⟨0, by omega, rfl, F0.out, hN, hb1⟩
  case round =>
    obtain ⟨k, hk, rfl, hF, hz, hb⟩ := hrel
    by_cases hlt : k < n
    · have H3r := H3.out.below hg hb
      obtain ⟨c0, c1, c2⟩ := H3r.get k hlt (Nat.le_refl _)
      obtain ⟨⟨u0, d0⟩, ⟨u1, d1⟩, z0, z1⟩ := hF.there k hlt
      obtain ⟨r0, r1⟩ := HU.out.below hb
      have HF : Hid (Fill wr w.heap.size n k (stA id A S) (stB id B S)) := hF
      clear hF H3r
      have k1 : (0 : Int) ≤ (k : Int) := by omega
      have k2 : (k : Int) < (n : Int) := by omega
      have b0 : 0 < wr.heap.size := cell_lt r0
      have bg : g < wr.heap.size := cell_lt c0
      have hne : ¬ g = w.heap.size := by omega
      by_cases hs : ((S k).toList == id.toList) = true
      · have eA : Hid (stA id A S k = 31) := by show stA id A S k = 31; unfold stA; rw [if_pos hs]
        have eB : Hid (stB id B S k = 1023) := by show stB id B S k = 1023; unfold stB; rw [if_pos hs]
        go_wp2_with fail
        have R := fill_round (w := w) HF.out hlt eA.out eB.out hz (Nat.le_refl _) hb (.cells #[.int .i64 (A k), .int .i64 (B k), .string (S k)] 56)
        go_roundw
        case rel => exact ⟨k + 1, by omega, by go_num, R.1, R.2.1, R.2.2⟩
        case measure => simp [intOf]; omega
      · have hs' : ((S k).toList == id.toList) = false := by simpa using hs
        have eA : Hid (stA id A S k = A k) := by show stA id A S k = A k; unfold stA; rw [if_neg hs]
        have eB : Hid (stB id B S k = B k) := by show stB id B S k = B k; unfold stB; rw [if_neg hs]
        clear hs
        go_wp2_with fail
        have R := fill_round (w := w) HF.out hlt eA.out eB.out hz (Nat.le_refl _) hb (.cells #[.int .i64 (A k), .int .i64 (B k), .string (S k)] 56)
        go_roundw
        case rel => exact ⟨k + 1, by omega, by go_num, R.1, R.2.1, R.2.2⟩
        case measure => simp [intOf]; omega
    · obtain rfl : k = n := by omega
      go_wp2_with fail
      go_ret
      exact ⟨rfl, hF, hz, hb⟩

end Go.Proofs.YbulkavwwDoor
