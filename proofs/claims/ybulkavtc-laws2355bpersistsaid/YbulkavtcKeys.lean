/-
  The keys that are present, in order.
-/
import Derived.Test.YbulkavtcList
namespace Go.Proofs.Ybulkavtc

def keys (pr : Nat → Bool) : List Nat := (List.range 85).filter pr
def with1 (pr : Nat → Bool) (i : Nat) : Nat → Bool := fun j => pr j || j == i

theorem keys_sorted (pr : Nat → Bool) : (keys pr).Pairwise (· < ·) := List.pairwise_lt_range.filter _
theorem keys_lt (pr : Nat → Bool) : ∀ k ∈ keys pr, k < 85 := fun k hk => by
  unfold keys at hk
  simp at hk
  exact hk.1
theorem keys_not (pr : Nat → Bool) (i : Nat) (h : pr i = false) : i ∉ keys pr := by
  unfold keys
  simp [h]
theorem keys_length (pr : Nat → Bool) : (keys pr).length ≤ 85 := by
  unfold keys
  have := List.length_filter_le pr (List.range 85)
  simpa using this

theorem filter_before (pr : Nat → Bool) (i : Nat) : ∀ n, n ≤ i → (List.range n).filter (with1 pr i) = (List.range n).filter pr := by
  intro n hn
  apply List.filter_congr
  intro k hk
  simp at hk
  have : k ≠ i := by omega
  simp [with1, this]

theorem filter_at (pr : Nat → Bool) (i : Nat) (h : pr i = false) : ∀ d, (List.range (i + 1 + d)).filter (with1 pr i) = insl i ((List.range (i + 1 + d)).filter pr)
  | 0 => by
    rw [Nat.add_zero, List.range_succ, List.filter_append, List.filter_append, filter_before pr i i (Nat.le_refl _)]
    have e1 : [i].filter (with1 pr i) = [i] := by simp [with1]
    have e2 : [i].filter pr = [] := by simp [h]
    rw [e1, e2, List.append_nil]
    unfold insl
    have f1 : ((List.range i).filter pr).filter (fun k => decide (k < i)) = (List.range i).filter pr := by
      rw [List.filter_eq_self]
      intro k hk
      simp at hk
      simp; omega
    have f2 : ((List.range i).filter pr).filter (fun k => decide (i < k)) = [] := by
      rw [List.filter_eq_nil_iff]
      intro k hk
      simp at hk
      simp; omega
    rw [f1, f2]
  | d + 1 => by
    have e : i + 1 + (d + 1) = (i + 1 + d) + 1 := by omega
    rw [e, List.range_succ, List.filter_append, List.filter_append, filter_at pr i h d]
    have hne : (i + 1 + d == i) = false := by simp; omega
    have e1 : [i + 1 + d].filter (with1 pr i) = [i + 1 + d].filter pr := by simp [with1, List.filter_cons, hne]
    rw [e1]
    unfold insl
    by_cases hp : pr (i + 1 + d) = true
    · have g1 : ¬ (i + 1 + d < i) := by omega
      have g2 : i < i + 1 + d := by omega
      simp [List.filter_append, hp, g1, g2]
    · simp [hp]

theorem keys_with (pr : Nat → Bool) (i : Nat) (hi : i < 85) (h : pr i = false) : keys (with1 pr i) = insl i (keys pr) := by
  unfold keys
  have e : 85 = i + 1 + (84 - i) := by omega
  rw [e]
  exact filter_at pr i h _

end Go.Proofs.Ybulkavtc
