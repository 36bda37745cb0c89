/-
  Plain lists: a key put in its place; the keys that are present.
-/
import Derived.Test.YbulkavtcAvl
namespace Go.Proofs.Ybulkavtc

theorem less_sB (i j : Nat) (hi : i < 85) (hj : j < 85) : Op.bytesLess (sB i).toList (sB j).toList = decide (i < j) := by
  have e : ∀ k, (sB k).toList = [UInt8.ofNat (3 * k)] := fun k => ByteArray.toList_eq _
  rw [e, e]
  simp only [Op.bytesLess]
  rw [Bool.eq_iff_iff]
  have h1 : 3 * i % 256 = 3 * i := Nat.mod_eq_of_lt (by omega)
  have h2 : 3 * j % 256 = 3 * j := Nat.mod_eq_of_lt (by omega)
  simp [UInt8.lt_iff_toNat_lt, h1, h2]

def insl (i : Nat) (ks : List Nat) : List Nat := ks.filter (fun k => decide (k < i)) ++ i :: ks.filter (fun k => decide (i < k))

theorem insl_nil (i : Nat) : insl i [] = [i] := rfl

theorem insl_left (i j : Nat) (lks rks : List Nat) (h : (lks ++ j :: rks).Pairwise (· < ·)) (hij : i < j) : insl i (lks ++ j :: rks) = insl i lks ++ j :: rks := by
  rw [List.pairwise_append] at h
  obtain ⟨-, h2, -⟩ := h
  rw [List.pairwise_cons] at h2
  have f1 : rks.filter (fun k => decide (k < i)) = [] := by
    rw [List.filter_eq_nil_iff]
    intro k hk
    have := h2.1 k hk
    simp; omega
  have f2 : rks.filter (fun k => decide (i < k)) = rks := by
    rw [List.filter_eq_self]
    intro k hk
    have := h2.1 k hk
    simp; omega
  unfold insl
  simp [f1, f2, hij, Nat.not_lt.2 (Nat.le_of_lt hij)]

theorem insl_right (i j : Nat) (lks rks : List Nat) (h : (lks ++ j :: rks).Pairwise (· < ·)) (hij : j < i) : insl i (lks ++ j :: rks) = lks ++ j :: insl i rks := by
  rw [List.pairwise_append] at h
  obtain ⟨-, -, h3⟩ := h
  have f1 : lks.filter (fun k => decide (k < i)) = lks := by
    rw [List.filter_eq_self]
    intro k hk
    have := h3 k hk j (by simp)
    simp; omega
  have f2 : lks.filter (fun k => decide (i < k)) = [] := by
    rw [List.filter_eq_nil_iff]
    intro k hk
    have := h3 k hk j (by simp)
    simp; omega
  unfold insl
  simp [f1, f2, hij, Nat.not_lt.2 (Nat.le_of_lt hij)]

theorem insl_length (i : Nat) (ks : List Nat) : (insl i ks).length ≤ ks.length + 1 := by
  unfold insl
  induction ks with
  | nil => simp
  | cons k ks ih =>
    simp only [List.filter_cons, List.length_append, List.length_cons] at *
    by_cases h1 : k < i
    · have h2 : ¬ i < k := by omega
      simp [h1, h2]; omega
    · by_cases h2 : i < k
      · simp [h1, h2]; omega
      · simp [h1, h2]; omega

end Go.Proofs.Ybulkavtc
