/-
  The walk of slices.Clone over routes.
-/
import Derived.Test.YbulkavwwDoorEqual
namespace Go.Proofs.YbulkavwwDoor
open Go.RowKit

def pairCell (A B : Nat → Int) (j : Nat) : Value := if j % 2 = 0 then .int .i64 (A (j / 2)) else .int .i64 (B (j / 2))
def pairCells (n : Nat) (A B : Nat → Int) : List Value := (List.range (n * 2)).map (pairCell A B)

theorem pairs_cell {w : World} {g n : Nat} {A B : Nat → Int} (h : Pairs w (some ⟨g, 0, none⟩) n A B) (j : Nat) (u : Value) (hj : (pairCells n A B)[j]? = some u) : w.cell? ((⟨g, 0, none⟩ : Addr).add j) = some u := by
  have hadd : (⟨g, 0, none⟩ : Addr).add j = ⟨g, j, none⟩ := by unfold Addr.add; split <;> simp_all
  rw [hadd]
  unfold pairCells at hj
  rw [List.getElem?_map] at hj
  rcases Nat.lt_or_ge j (n * 2) with hlt | hge
  · rw [List.getElem?_range hlt] at hj
    simp only [Option.map_some, Option.some.injEq] at hj
    obtain ⟨g', e, -, c0, c1⟩ := h (j / 2) (by omega)
    cases e
    subst hj
    unfold pairCell
    by_cases e : j % 2 = 0
    · rw [if_pos e, ← c0]
      congr 2
      omega
    · rw [if_neg e, ← c1]
      congr 2
      omega
  · rw [List.getElem?_eq_none (by simpa using hge)] at hj
    cases hj

theorem pairs_of_owns {w : World} {base n : Nat} {v : Value} {A B : Nat → Int} (ho : w.ownsRow base 54 2 v n (pairCells n A B)) : ∃ a c, v = .slice a n c ∧ Pairs w a n A B := by
  rcases ho.2 with ⟨rfl, h0⟩ | ⟨g, cap, cur, rfl, hB, hg, hcap, -⟩
  · exact ⟨none, 0, by rw [h0], fun k hk => by omega⟩
  · refine ⟨_, cap, rfl, fun k hk => ⟨g, rfl, (Array.getElem?_eq_some_iff.1 hg).1, ?_, ?_⟩⟩
    · have hc := ho.cells (g := g) rfl (k * 2) (.int .i64 (A k)) (by
        unfold pairCells
        rw [List.getElem?_map, List.getElem?_range (by omega)]
        have : k * 2 % 2 = 0 := by omega
        have e2 : k * 2 / 2 = k := by omega
        simp [pairCell, this, e2])
      have hadd : (⟨g, 0, none⟩ : Addr).add (k * 2) = ⟨g, k * 2, none⟩ := by unfold Addr.add; split <;> simp_all
      rw [hadd] at hc
      exact hc
    · have hc := ho.cells (g := g) rfl (k * 2 + 1) (.int .i64 (B k)) (by
        unfold pairCells
        rw [List.getElem?_map, List.getElem?_range (by omega)]
        have : ¬ (k * 2 + 1) % 2 = 0 := by omega
        have e2 : (k * 2 + 1) / 2 = k := by omega
        simp [pairCell, e2])
      have hadd : (⟨g, 0, none⟩ : Addr).add (k * 2 + 1) = ⟨g, k * 2 + 1, none⟩ := by unfold Addr.add; split <;> simp_all
      rw [hadd] at hc
      exact hc

set_option maxRecDepth 100000 in
set_option maxHeartbeats 1000000 in
theorem clone_nil (w : World) :
    Calls Ybad.prog 4 #[.slice none 0 0] w fun e w' => e = .returned (.slice none 0 0) ∧ Below w.heap.size w w' := by
  have eq := fun (w : World) (a : Option Addr) (n c : Nat) => Lib.run_eql_slice_nil (P := Ybad.prog) w 50 54 a n c 0 0 Ybad.underlying50
  go_enter Ybad.func4, Ybad.ntmps4
  go_wp2
  go_ret
  exact ⟨rfl, Below.refl _ _⟩

set_option maxRecDepth 100000 in
set_option maxHeartbeats 1000000 in
theorem clone_some (g n c : Nat) (A B : Nat → Int) (w : World) (hn : n ≤ 1024) (hp : Pairs w (some ⟨g, 0, none⟩) n A B) :
    Calls Ybad.prog 4 #[.slice (some ⟨g, 0, none⟩) n c] w fun e w' => ∃ a' c', e = .returned (.slice a' n c') ∧ Pairs w' a' n A B ∧ Below w.heap.size w w' := by
  have eq := fun (w : World) (a : Option Addr) (n c : Nat) => Lib.run_eql_slice_nil (P := Ybad.prog) w 50 54 a n c 0 0 Ybad.underlying50
  obtain ⟨i0, hi, hz0, hz1, hz2⟩ := info_parts Ybad.info54
  go_enter Ybad.func4, Ybad.ntmps4
  go_wp2_with (at_builtin; refine wpList_append_own _ rfl _ _ 50 rfl w.heap.size 54 i0 (.agg #[.int .i64 0, .int .i64 0]) 2 16 Ybad.underlying50 hi hz0 hz1 hz2 rfl (by decide) _ _ _ rfl (World.ownsRow_made w #[] 0 (Nat.le_refl _) (by decide) rfl) ⟨g, 0, none⟩ n c (pairCells n A B) rfl ?c0 ?c1 ?c2 ?c3 ?c4 ?c5 ?_)
  case c0 => simp [pairCells]
  case c1 =>
    intro j u hj
    exact pairs_cell (hp.below ((Below.refl _ _).alloc (Nat.le_refl _) _)) j u hj
  case c2 =>
    intro u hu
    unfold pairCells at hu
    simp only [List.mem_map] at hu
    obtain ⟨j, -, rfl⟩ := hu
    unfold pairCell
    split <;> rfl
  case c3 => unfold maxLen; omega
  case c4 => omega
  case c5 => simp
  intro v' w1 ho hg1 _
  have hb : Below w.heap.size w w1 := ((Below.refl _ _).alloc (Nat.le_refl _) _).grown hg1 (by simp) (fun k hk => by cases hk; exact Nat.le_refl _)
  obtain ⟨a', c', rfl, hp'⟩ := pairs_of_owns ho
  clear ho hg1
  go_wp2_with fail
  go_ret
  exact ⟨a', c', rfl, hp', hb⟩

end Go.Proofs.YbulkavwwDoor
