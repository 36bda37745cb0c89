/-
  How many keys lie below n; where a key's cells lie.
-/
import Derived.Test.YbulkavtcKeys
import Derived.Test.YbulkavtcApp
namespace Go.Proofs.Ybulkavtc
open Go.RowKit

def cnt (pr : Nat → Bool) (n : Nat) : Nat := ((List.range n).filter pr).length

theorem cnt_zero (pr : Nat → Bool) : cnt pr 0 = 0 := rfl
theorem cnt_yes (pr : Nat → Bool) (n : Nat) (h : pr n = true) : cnt pr (n + 1) = cnt pr n + 1 := by
  unfold cnt; simp [List.range_succ, h]
theorem cnt_no (pr : Nat → Bool) (n : Nat) (h : pr n = false) : cnt pr (n + 1) = cnt pr n := by
  unfold cnt; simp [List.range_succ, h]
theorem cnt_all (pr : Nat → Bool) : cnt pr 85 = (keys pr).length := rfl

theorem keys_cut (pr : Nat → Bool) (n d : Nat) (h : pr n = true) : (List.range (n + 1 + d)).filter pr = (List.range n).filter pr ++ n :: ((List.range' (n + 1) d).filter pr) := by
  have e : List.range (n + 1 + d) = List.range n ++ n :: List.range' (n + 1) d := by
    rw [List.range_eq_range', List.range_eq_range']
    have : List.range' 0 (n + (1 + d)) = List.range' 0 n ++ List.range' (0 + n) (1 + d) := by
      have := @List.range'_append 0 n (1 + d) 1
      simpa using this.symm
    rw [Nat.add_assoc, this, Nat.zero_add, Nat.add_comm 1 d, List.range'_succ]
  rw [e, List.filter_append, List.filter_cons, if_pos h]

theorem keys_at (pr : Nat → Bool) (n : Nat) (hn : n < 85) (h : pr n = true) : (keys pr)[cnt pr n]? = some n := by
  have e : 85 = n + 1 + (84 - n) := by omega
  unfold keys cnt
  rw [e, keys_cut pr n _ h]
  simp

theorem cnt_lt (pr : Nat → Bool) (n : Nat) (hn : n < 85) (h : pr n = true) : cnt pr n < (keys pr).length := by
  have := keys_at pr n hn h
  exact (List.getElem?_eq_some_iff.1 this).1

theorem cellsOf_at : ∀ (ks : List Nat) (j n : Nat), ks[j]? = some n → (cellsOf ks)[j * 2]? = some (.string (sB n)) ∧ (cellsOf ks)[j * 2 + 1]? = some (.string (eB n))
  | [], j, n, h => by simp at h
  | k :: ks, 0, n, h => by
    simp at h
    subst h
    exact ⟨rfl, rfl⟩
  | k :: ks, j + 1, n, h => by
    have h' : ks[j]? = some n := by simpa using h
    have := cellsOf_at ks j n h'
    have e : (j + 1) * 2 = j * 2 + 1 + 1 := by omega
    rw [e]
    simpa [cellsOf] using this

/-- What 'got' is: nil and no key is present; or a slice over its own row. -/
theorem got_form {w : World} {B : Nat} {v : Value} {pr : Nat → Bool} (ho : w.ownsRow B 31 2 v (0 + (keys pr).length) ([] ++ cellsOf (keys pr))) :
    (v = .slice none 0 0 ∧ (keys pr).length = 0 ∧ ∀ n, n < 85 → pr n = false) ∨
    ∃ g cap, v = .slice (some ⟨g, 0, none⟩) (keys pr).length cap ∧ B ≤ g ∧ g < w.heap.size ∧ (keys pr).length ≤ cap ∧
      ∀ n, n < 85 → pr n = true → w.cell? ⟨g, cnt pr n * 2, none⟩ = some (.string (sB n)) ∧ w.cell? ⟨g, cnt pr n * 2 + 1, none⟩ = some (.string (eB n)) := by
  have ho' := ho
  simp only [Nat.zero_add, List.nil_append] at ho'
  rcases ho'.2 with ⟨rfl, h0⟩ | ⟨g, cap, cur, rfl, hB, hg, hcap, -⟩
  · refine .inl ⟨rfl, h0, fun n hn => ?_⟩
    cases h : pr n with
    | false => rfl
    | true => have := cnt_lt pr n hn h; omega
  · refine .inr ⟨g, cap, rfl, hB, (Array.getElem?_eq_some_iff.1 hg).1, hcap, fun n hn h => ?_⟩
    have hc := ho'.cells (g := g) rfl
    have hadd : ∀ j, (⟨g, 0, none⟩ : Addr).add j = ⟨g, j, none⟩ := fun j => by unfold Addr.add; split <;> simp_all
    obtain ⟨c1, c2⟩ := cellsOf_at (keys pr) (cnt pr n) n (keys_at pr n hn h)
    have d1 := hc _ _ c1
    have d2 := hc _ _ c2
    rw [hadd] at d1 d2
    exact ⟨d1, d2⟩

end Go.Proofs.Ybulkavtc
