/-
  Plain facts on the groups, for the law's own check.
-/
import Derived.Test.YbulkavwiDoorAfter
namespace Go.Proofs.YbulkavwiDoor
open Go.RowKit
set_option linter.unusedSimpArgs false
set_option linter.unusedVariables false

/-- The first k. -/
def pr (X : Nat → Nat) (k : Nat) : List Nat := (List.range k).map X
theorem pr_succ (X : Nat → Nat) (k : Nat) : pr X (k + 1) = pr X k ++ [X k] := by
  unfold pr
  rw [List.range_succ, List.map_append]
  rfl

/-- Those of the key s among the first k. -/
def fi (X : Nat → Nat) (κ : Nat → ByteArray) (s : ByteArray) (k : Nat) : List Nat := (pr X k).filter (fun x => decide (κ x = s))
theorem fi_yes (X : Nat → Nat) (κ : Nat → ByteArray) (s : ByteArray) (k : Nat) (h : κ (X k) = s) : fi X κ s (k + 1) = fi X κ s k ++ [X k] := by
  unfold fi
  rw [pr_succ, List.filter_append]
  simp [h]
theorem fi_no (X : Nat → Nat) (κ : Nat → ByteArray) (s : ByteArray) (k : Nat) (h : κ (X k) ≠ s) : fi X κ s (k + 1) = fi X κ s k := by
  unfold fi
  rw [pr_succ, List.filter_append]
  simp [h]
theorem fi_more (X : Nat → Nat) (κ : Nat → ByteArray) (s : ByteArray) (m : Nat) : ∀ d, ∃ r, fi X κ s (m + d) = fi X κ s m ++ r
  | 0 => ⟨[], by simp⟩
  | d + 1 => by
    obtain ⟨r, h⟩ := fi_more X κ s m d
    by_cases e : κ (X (m + d)) = s
    · exact ⟨r ++ [X (m + d)], by rw [← Nat.add_assoc, fi_yes X κ s (m + d) e, h, List.append_assoc]⟩
    · exact ⟨r, by rw [← Nat.add_assoc, fi_no X κ s (m + d) e, h]⟩
theorem fi_get (X : Nat → Nat) (κ : Nat → ByteArray) (s : ByteArray) (m n : Nat) (hm : m < n) (h : κ (X m) = s) : (fi X κ s m).length < (fi X κ s n).length ∧ (fi X κ s n)[(fi X κ s m).length]? = some (X m) := by
  obtain ⟨r, hr⟩ := fi_more X κ s (m + 1) (n - (m + 1))
  rw [show m + 1 + (n - (m + 1)) = n by omega, fi_yes X κ s m h, List.append_assoc] at hr
  rw [hr]
  simp
theorem fi_le (X : Nat → Nat) (κ : Nat → ByteArray) (s : ByteArray) (k : Nat) : (fi X κ s k).length ≤ k := by
  unfold fi
  exact Nat.le_trans (List.length_filter_le ..) (by simp [pr])

/-- How many keys the first k have. -/
def nk (X : Nat → Nat) (κ : Nat → ByteArray) (k : Nat) : Nat := (groups κ (pr X k)).length
theorem nk_old (X : Nat → Nat) (κ : Nat → ByteArray) (k m : Nat) (hm : m < k) (h : κ (X m) = κ (X k)) : nk X κ (k + 1) = nk X κ k := by
  unfold nk
  rw [pr_succ, len_groups, if_pos]
  rw [List.any_eq_true]
  exact ⟨X m, by simp [pr]; exact ⟨m, hm, rfl⟩, by simp [h]⟩
theorem nk_new (X : Nat → Nat) (κ : Nat → ByteArray) (k : Nat) (h : ∀ m, m < k → κ (X m) ≠ κ (X k)) : nk X κ (k + 1) = nk X κ k + 1 := by
  unfold nk
  rw [pr_succ, len_groups, if_neg]
  rw [List.any_eq_true]
  rintro ⟨y, hy, e⟩
  simp [pr] at hy
  obtain ⟨m, hm, rfl⟩ := hy
  exact h m hm (by simpa using e)
theorem nk_le (X : Nat → Nat) (κ : Nat → ByteArray) : ∀ k, nk X κ k ≤ k
  | 0 => by simp [nk, pr, groups]
  | k + 1 => by
    have := nk_le X κ k
    unfold nk at this ⊢
    rw [pr_succ, len_groups]
    split <;> omega
theorem any_pr (X : Nat → Nat) (κ : Nat → ByteArray) (k n : Nat) (hk : k < n) : (pr X n).any (fun x => decide (κ x = κ (X k))) = true := by
  rw [List.any_eq_true]
  exact ⟨X k, by simp [pr]; exact ⟨k, hk, rfl⟩, by simp⟩

/-- What the map gives for the key of the k-th. -/
theorem Grp.at {W : World} {bm B n : Nat} {κ : Nat → ByteArray} {X : Nat → Nat} (h : Grp W bm B κ (pr X n)) :
    ∃ es cl, W.heap[bm]? = some (.map es cl) ∧ es.size = nk X κ n ∧ ∀ k, k < n → ∃ g c, (∀ V : World, V.heap[bm]? = some (.map es cl) → (Instr.lookup 49 (.map (some bm)) (.string (κ (X k))) true).run Ybad.prog V = .ok (.tuple #[.slice (some ⟨g, 0, none⟩) (fi X κ (κ (X k)) n).length c, .bool true]) V) ∧
      ∀ m, m < n → κ (X m) = κ (X k) → W.cell? ⟨g, (fi X κ (κ (X k)) m).length, none⟩ = some (encP (X m)) := by
  obtain ⟨es, cl, h1, h2, h3⟩ := h.holds
  refine ⟨es, cl, h1, h2, fun k hk => ?_⟩
  obtain ⟨v, -, h5, h6⟩ := h3 (κ (X k))
  simp only [any_pr X κ k n hk] at h5
  obtain ⟨vo, cv, rfl, hc⟩ := rows_of (n := (fi X κ (κ (X k)) n).length) (f := fun j => encP ((fi X κ (κ (X k)) n)[j]?.getD 0)) h6 (fun j hj => by
    rw [List.getElem?_map, show (pr X n).filter (fun x => decide (κ x = κ (X k))) = fi X κ (κ (X k)) n from rfl, List.getElem?_eq_getElem hj]
    rfl)
  obtain ⟨l0, -⟩ := fi_get X κ (κ (X k)) k n hk rfl
  obtain ⟨g, rfl, -⟩ := hc 0 (by omega)
  refine ⟨g, cv, h5, fun m hm e => ?_⟩
  obtain ⟨l1, l2⟩ := fi_get X κ (κ (X k)) m n hm e
  obtain ⟨g', e', hcell⟩ := hc _ l1
  obtain rfl : g = g' := (Addr.mk.inj (Option.some.inj e')).1
  rw [hcell, l2]
  rfl

end Go.Proofs.YbulkavwiDoor
