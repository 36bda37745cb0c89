/-
  The walk of slices.Equal over routes.
-/
import Derived.Test.YbulkavwwDoorStated
namespace Go.Proofs.YbulkavwwDoor
open Go.RowKit
attribute [local go_sem ↓] Go.wp_at_zero Go.wp_at_succ

/-- A slice of routes: where there is an element, its cells. -/
def Pairs (w : World) (a : Option Addr) (n : Nat) (A B : Nat → Int) : Prop :=
  ∀ k, k < n → ∃ g, a = some ⟨g, 0, none⟩ ∧ g < w.heap.size ∧ w.cell? ⟨g, k * 2, none⟩ = some (.int .i64 (A k)) ∧ w.cell? ⟨g, k * 2 + 1, none⟩ = some (.int .i64 (B k))

theorem Pairs.below {w w' : World} {a : Option Addr} {n : Nat} {A B : Nat → Int} (h : Pairs w a n A B) (hb : Below w.heap.size w w') : Pairs w' a n A B := fun k hk => by
  obtain ⟨g, e, hg, c0, c1⟩ := h k hk
  exact ⟨g, e, Nat.lt_of_lt_of_le hg hb.size, (hb.cell (p := ⟨g, k * 2, none⟩) hg).trans c0, (hb.cell (p := ⟨g, k * 2 + 1, none⟩) hg).trans c1⟩

theorem Fill.pairs {w : World} {g n : Nat} {A B : Nat → Int} (h : Fill w g n n A B) (hg : g < w.heap.size) : Pairs w (some ⟨g, 0, none⟩) n A B := fun k hk => by
  obtain ⟨c0, c1⟩ := h.get k hk (Nat.le_refl _)
  exact ⟨g, rfl, hg, c0, c1⟩

def Same (n : Nat) (A B A' B' : Nat → Int) : Prop := ∀ k, k < n → A k = A' k ∧ B k = B' k

set_option maxRecDepth 100000 in
set_option maxHeartbeats 1000000 in
theorem equal_len (a a' : Option Addr) (n c n' c' : Nat) (w : World) (_ : n ≤ 1024) (_ : n' ≤ 1024) (h : n ≠ n') :
    Calls Ybad.prog 7 #[.slice a n c, .slice a' n' c'] w fun e w' => e = .returned (.bool false) ∧ Below w.heap.size w w' := by
  have h2 : ((n : Int) != (n' : Int)) = true := by rw [bne_iff_ne]; omega
  go_enter Ybad.func7, Ybad.ntmps7
  go_wp2_with fail
  go_ret
  exact ⟨rfl, Below.refl _ _⟩

set_option maxRecDepth 100000 in
set_option maxHeartbeats 1000000 in
theorem equal_row (a a' : Option Addr) (n c c' : Nat) (A B A' B' : Nat → Int) (w : World) (hn : n ≤ 1024) (p : Pairs w a n A B) (p' : Pairs w a' n A' B') :
    Calls Ybad.prog 7 #[.slice a n c, .slice a' n c'] w fun e w' => ∃ r, e = .returned (.bool r) ∧ (r = true ↔ Same n A B A' B') ∧ Below w.heap.size w w' := by
  have HP : Hid (Pairs w a n A B) := p
  have HP' : Hid (Pairs w a' n A' B') := p'
  clear p p'
  go_enter Ybad.func7, Ybad.ntmps7
  go_wp2_with fail
  go_loopw [13] (fun i wr => ∃ k : Nat, k ≤ n ∧ i = .int .i64 k ∧ Same k A B A' B' ∧ Below w.heap.size w wr) (fun i _ => n - (intOf i).toNat)
  case atStart => exact ⟨0, by omega, rfl, fun k hk => by omega, Below.refl _ _⟩
  case round =>
    obtain ⟨k, hk, rfl, hS, hb⟩ := hrel
    have HS : Hid (Same k A B A' B') := hS
    clear hS
    by_cases hlt : k < n
    · obtain ⟨g, e1, l1, c0, c1⟩ := HP.out.below hb k hlt
      obtain ⟨g', e2, l2, c0', c1'⟩ := HP'.out.below hb k hlt
      clear HP HP'
      subst e1
      subst e2
      have k1 : (0 : Int) ≤ (k : Int) := by omega
      have k2 : (k : Int) < (n : Int) := by omega
      by_cases hs : A k = A' k ∧ B k = B' k
      · obtain ⟨s1, s2⟩ := hs
        rw [← s1] at c0'
        rw [← s2] at c1'
        have HN : Hid (Same (k + 1) A B A' B') := by
          intro j hj
          by_cases e : j = k
          · subst e; exact ⟨s1, s2⟩
          · exact HS.out j (by omega)
        clear s1 s2 HS
        generalize A k = x at *
        generalize B k = y at *
        go_wp2_with fail
        go_region_held3 (fun w' => w'.cell? ⟨g, k * 2, none⟩ = some (.int .i64 x) ∧ w'.cell? ⟨g, k * 2 + 1, none⟩ = some (.int .i64 y) ∧ w'.cell? ⟨g', k * 2, none⟩ = some (.int .i64 x) ∧ w'.cell? ⟨g', k * 2 + 1, none⟩ = some (.int .i64 y)) (first | go_keep) (fail)
        go_wp2_with fail
        go_roundw
        case rel => exact ⟨k + 1, by omega, by go_num, HN.out, hb.drew⟩
        case measure => simp [intOf]; omega
      · have HN : Hid (¬ Same n A B A' B') := fun h => hs (h k hlt)
        by_cases e : A k = A' k
        · have hy : (B k == B' k) = false := by simpa using fun e2 => hs ⟨e, e2⟩
          have hy2 : ¬ B k = B' k := fun e2 => hs ⟨e, e2⟩
          rw [← e] at c0'
          clear hs HS e
          generalize A k = x at *
          generalize B k = y at *
          generalize B' k = y' at *
          go_wp2_with fail
          go_region_held3 (fun w' => w'.cell? ⟨g, k * 2, none⟩ = some (.int .i64 x) ∧ w'.cell? ⟨g, k * 2 + 1, none⟩ = some (.int .i64 y) ∧ w'.cell? ⟨g', k * 2, none⟩ = some (.int .i64 x) ∧ w'.cell? ⟨g', k * 2 + 1, none⟩ = some (.int .i64 y')) (first | go_keep) (fail)
          go_wp2_with fail
          go_ret
          exact ⟨false, rfl, ⟨(fun h => by cases h), fun h => absurd h HN.out⟩, hb.drew⟩
        · have hx : (A k == A' k) = false := by simpa using e
          clear hs HS
          generalize A k = x at *
          generalize B k = y at *
          generalize A' k = x' at *
          generalize B' k = y' at *
          go_wp2_with fail
          go_region_held3 (fun w' => w'.cell? ⟨g, k * 2, none⟩ = some (.int .i64 x) ∧ w'.cell? ⟨g, k * 2 + 1, none⟩ = some (.int .i64 y) ∧ w'.cell? ⟨g', k * 2, none⟩ = some (.int .i64 x') ∧ w'.cell? ⟨g', k * 2 + 1, none⟩ = some (.int .i64 y')) (first | go_keep) (fail)
          go_wp2_with fail
          go_ret
          exact ⟨false, rfl, ⟨(fun h => by cases h), fun h => absurd h HN.out⟩, hb.drew⟩
    · obtain rfl : k = n := by omega
      go_wp2_with fail
      go_ret
      exact ⟨true, rfl, ⟨fun _ => HS.out, fun _ => rfl⟩, hb⟩

end Go.Proofs.YbulkavwwDoor
