/-
  Walks of the small functions over one node: (*keySet).h, (*keySet).len, node.
-/
import Derived.Test.YbulkavtcRows
import Derived.WalkKit
import Derived.WalkSpells
import Derived.WalkLawsBesides
import Derived.Deep.QuietTactic
import Derived.BigQuiet
import Derived.Deep.RegionHeld3
import Derived.Deep.DrawnRows
namespace Go.Proofs.Ybulkavtc
open Go.RowKit
attribute [local go_sem ↓] Go.wp_at_zero Go.wp_at_succ

/-- What 'h' and 'len' read at the root: nothing at nil; else the two cells. -/
def Top (w : World) (p : Option Addr) (h n : Nat) : Prop :=
  (p = none ∧ h = 0 ∧ n = 0) ∨ ∃ b, p = some ⟨b, 0, none⟩ ∧ w.cell? ⟨b, 4, none⟩ = some (.int .i64 h) ∧ w.cell? ⟨b, 5, none⟩ = some (.int .i64 n)

set_option maxHeartbeats 400000 in
theorem h_any (p : Option Addr) (h n : Nat) (w : World) (t : Top w p h n) :
    Calls Yba.prog 14 #[.pointer p] w fun e w' => e = .returned (.int .i64 h) ∧ w' = w := by
  rcases t with ⟨rfl, rfl, rfl⟩ | ⟨b, rfl, h4, h5⟩
  · go_enter Yba.func14, Yba.ntmps14
    go_wp2
    go_ret
    exact ⟨rfl, rfl⟩
  · go_enter Yba.func14, Yba.ntmps14
    go_wp2
    go_ret
    exact ⟨rfl, rfl⟩

set_option maxHeartbeats 400000 in
theorem len_any (p : Option Addr) (h n : Nat) (w : World) (t : Top w p h n) :
    Calls Yba.prog 11 #[.pointer p] w fun e w' => e = .returned (.int .i64 n) ∧ w' = w := by
  rcases t with ⟨rfl, rfl, rfl⟩ | ⟨b, rfl, h4, h5⟩
  · go_enter Yba.func11, Yba.ntmps11
    go_wp2
    go_ret
    exact ⟨rfl, rfl⟩
  · go_enter Yba.func11, Yba.ntmps11
    go_wp2
    go_ret
    exact ⟨rfl, rfl⟩

theorem cell_lt {w : World} {b o : Nat} {v : Value} (h : w.cell? ⟨b, o, none⟩ = some v) : b < w.heap.size := by
  apply Decidable.byContradiction
  intro hn
  have : w.heap[b]? = none := by rw [Array.getElem?_eq_none_iff]; omega
  simp [World.cell?, this] at h

theorem Top.below {w w' : World} {p : Option Addr} {h n : Nat} (t : Top w p h n) (b : Below w.heap.size w w') : Top w' p h n := by
  rcases t with t | ⟨k, rfl, h4, h5⟩
  · exact .inl t
  · have hk := cell_lt h4
    exact .inr ⟨k, rfl, by rw [b.cell (p := ⟨k, 4, none⟩) hk]; exact h4, by rw [b.cell (p := ⟨k, 5, none⟩) hk]; exact h5⟩

/-- A node's six cells. -/
def IsNode (w : World) (b : Nat) (s e : ByteArray) (l r : Option Addr) (h n : Nat) : Prop :=
  w.cell? ⟨b, 0, none⟩ = some (.string s) ∧ w.cell? ⟨b, 1, none⟩ = some (.string e) ∧ w.cell? ⟨b, 2, none⟩ = some (.pointer l) ∧ w.cell? ⟨b, 3, none⟩ = some (.pointer r) ∧
    w.cell? ⟨b, 4, none⟩ = some (.int .i64 h) ∧ w.cell? ⟨b, 5, none⟩ = some (.int .i64 n)

theorem wrap_add (a b : Nat) (h : a + b ≤ 1000000) : IntKind.i64.wrap ((a : Int) + (b : Int)) = (a : Int) + (b : Int) := by
  rw [IntKind.wrap_i64]; omega

theorem node_end (w : World) (o : Obj) (s e : ByteArray) (l r : Option Addr) (h n : Nat) (hi ni : Int) (eh : hi = h) (en : ni = n) :
    let w' := ((w.alloc o).alloc (.cells #[.string s, .string e, .pointer l, .pointer r, .int .i64 hi, .int .i64 ni] 41)).drew
    w.heap.size ≤ w.heap.size + 1 ∧ w.heap.size + 1 < w'.heap.size ∧ IsNode w' (w.heap.size + 1) s e l r h n ∧ Below w.heap.size w w' := by
  subst eh; subst en
  refine ⟨by omega, by simp, ?_, (((Below.refl _ _).alloc (Nat.le_refl _) _).alloc (by simp) _).drew⟩
  simp [IsNode, go_sem]

set_option maxRecDepth 100000 in
set_option maxHeartbeats 1000000 in
theorem node_any (l r : Option Addr) (s e : ByteArray) (hl nl hr nr : Nat) (w : World) (tl : Top w l hl nl) (tr : Top w r hr nr)
    (b1 : hl ≤ 1000) (b2 : hr ≤ 1000) (b3 : nl ≤ 1000) (b4 : nr ≤ 1000) :
    Calls Yba.prog 12 #[.pointer l, .agg #[.string s, .string e], .pointer r] w fun x w' => ∃ b, x = .returned (.pointer (some ⟨b, 0, none⟩)) ∧ w.heap.size ≤ b ∧ b < w'.heap.size ∧
      IsNode w' b s e l r (1 + max hl hr) (nl + 1 + nr) ∧ Below w.heap.size w w' := by
  have tl' : ∀ o, Top (w.alloc o).drew l hl nl := fun o => tl.below ((Below.refl _ _).alloc (Nat.le_refl _) o).drew
  have tr' : ∀ o, Top (w.alloc o).drew r hr nr := fun o => tr.below ((Below.refl _ _).alloc (Nat.le_refl _) o).drew
  have e1 : IntKind.i64.wrap (1 + (hl : Int)) = 1 + (hl : Int) := wrap_add 1 hl (by omega)
  have e2 : IntKind.i64.wrap (1 + (hr : Int)) = 1 + (hr : Int) := wrap_add 1 hr (by omega)
  have e3 : IntKind.i64.wrap ((nl : Int) + 1) = (nl : Int) + 1 := wrap_add nl 1 (by omega)
  have e4 : IntKind.i64.wrap ((nl : Int) + 1 + (nr : Int)) = (nl : Int) + 1 + (nr : Int) := wrap_add (nl + 1) nr (by omega)
  by_cases hlt : hl < hr
  all_goals
    go_enter Yba.func12, Yba.ntmps12
    go_wp2
    go_region_held3 (fun w' => w'.cell? ⟨w.heap.size, 0, none⟩ = some (.string s) ∧ w'.cell? ⟨w.heap.size, 1, none⟩ = some (.string e)) (go_keep)
      (first | (go_at_call_of 14 (Value.pointer l); refine (h_any l hl nl _ ?_).mono ?_; (exact tl' _); rintro e w' ⟨rfl, rfl⟩)
             | (go_at_call_of 14 (Value.pointer r); refine (h_any r hr nr _ ?_).mono ?_; (exact tr' _); rintro e w' ⟨rfl, rfl⟩)
             | (go_at_call_of 11 (Value.pointer l); refine (len_any l hl nl _ ?_).mono ?_; (exact tl' _); rintro e w' ⟨rfl, rfl⟩)
             | (go_at_call_of 11 (Value.pointer r); refine (len_any r hr nr _ ?_).mono ?_; (exact tr' _); rintro e w' ⟨rfl, rfl⟩))
    all_goals go_wp2
    all_goals go_ret
    all_goals exact ⟨_, rfl, node_end _ _ _ _ _ _ _ _ _ _ (by omega) (by omega)⟩

end Go.Proofs.Ybulkavtc
