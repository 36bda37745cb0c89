/-
  Plain: the list of the ones; its head is the trailing zeros' count, its tail belongs to x & (x - 1); how a cut of x counts.
-/
import Derived.Test.YbulkavueDoorBits
namespace Go.Proofs.YbulkavueDoor

theorem cnt_yes (x n : Nat) (h : x.testBit n = true) : cntTo x (n + 1) = cntTo x n + 1 := by
  unfold cntTo onesTo; simp [List.range_succ, h]
theorem cnt_no (x n : Nat) (h : x.testBit n = false) : cntTo x (n + 1) = cntTo x n := by
  unfold cntTo onesTo; simp [List.range_succ, h]

theorem range_cut (n d : Nat) : List.range (n + 1 + d) = List.range n ++ n :: List.range' (n + 1) d := by
  rw [List.range_eq_range', List.range_eq_range']
  have : List.range' 0 (n + (1 + d)) = List.range' 0 n ++ List.range' (0 + n) (1 + d) := by
    have := @List.range'_append 0 n (1 + d) 1
    simpa using this.symm
  rw [Nat.add_assoc, this, Nat.zero_add, Nat.add_comm 1 d, List.range'_succ]

theorem ones_cut (x n d : Nat) (h : x.testBit n = true) : onesTo x (n + 1 + d) = onesTo x n ++ n :: ((List.range' (n + 1) d).filter fun i => x.testBit i) := by
  unfold onesTo
  rw [range_cut, List.filter_append, List.filter_cons, if_pos h]

theorem ones_at (x n N : Nat) (hn : n < N) (h : x.testBit n = true) : (onesTo x N)[cntTo x n]? = some n := by
  have e : N = n + 1 + (N - (n + 1)) := by omega
  rw [e, ones_cut x n _ h]
  unfold cntTo
  simp

theorem cnt_lt (x n N : Nat) (hn : n < N) (h : x.testBit n = true) : cntTo x n < cntTo x N := by
  have := ones_at x n N hn h
  exact (List.getElem?_eq_some_iff.1 this).1

/-- A place in the list is a one of x below N, and so many ones lie below it. -/
theorem ones_get (x N j t : Nat) (h : (onesTo x N)[j]? = some t) : t < N ∧ x.testBit t = true ∧ cntTo x t = j := by
  have hm : t ∈ onesTo x N := List.mem_of_getElem? h
  have hm' := hm
  unfold onesTo at hm'
  simp only [List.mem_filter, List.mem_range] at hm'
  have h2 := ones_at x t N hm'.1 hm'.2
  refine ⟨hm'.1, hm'.2, ?_⟩
  have nd : (onesTo x N).Pairwise (· < ·) := List.pairwise_lt_range.filter _
  have l1 := (List.getElem?_eq_some_iff.1 h).1
  have l2 := (List.getElem?_eq_some_iff.1 h2).1
  have e1 := (List.getElem?_eq_some_iff.1 h).2
  have e2 := (List.getElem?_eq_some_iff.1 h2).2
  rw [List.pairwise_iff_getElem] at nd
  rcases Nat.lt_trichotomy (cntTo x t) j with g | g | g
  · have := nd _ _ l2 l1 g
    omega
  · exact g
  · have := nd _ _ l1 l2 g
    omega

theorem cnt_le (x n : Nat) : cntTo x n ≤ n := by
  unfold cntTo onesTo
  have := List.length_filter_le (fun i => x.testBit i) (List.range n)
  simpa using this

/-- Where x has no one from n on, the longer list is the shorter one. -/
theorem ones_far (x n N : Nat) (hx : x < 2 ^ n) (hN : n ≤ N) : onesTo x N = onesTo x n := by
  obtain ⟨d, rfl⟩ : ∃ d, N = n + d := ⟨N - n, by omega⟩
  unfold onesTo
  rw [List.range_add, List.filter_append]
  have : List.filter (fun i => x.testBit i) ((List.range d).map (n + ·)) = [] := by
    rw [List.filter_eq_nil_iff]
    intro i hi
    simp only [List.mem_map, List.mem_range] at hi
    obtain ⟨j, -, rfl⟩ := hi
    have : x.testBit (n + j) = false := Nat.testBit_lt_two_pow (Nat.lt_of_lt_of_le hx (Nat.pow_le_pow_right (by decide) (by omega)))
    simp [this]
  rw [this, List.append_nil]

theorem cnt_far (x n N : Nat) (hx : x < 2 ^ n) (hN : n ≤ N) : cntTo x N = cntTo x n := by unfold cntTo; rw [ones_far x n N hx hN]

/-- The ones of x below n are those of x cut to n bits. -/
theorem cnt_cut (x n N : Nat) (hN : n ≤ N) : cntTo (x % 2 ^ n) N = cntTo x n := by
  rw [cnt_far (x % 2 ^ n) n N (Nat.mod_lt _ (Nat.two_pow_pos n)) hN]
  unfold cntTo onesTo
  congr 1
  apply List.filter_congr
  intro i hi
  have : i < n := by simpa using hi
  rw [Nat.testBit_mod_two_pow]
  simp [this]

theorem cnt_pos (x n : Nat) (hx : x < 2 ^ n) (h0 : x ≠ 0) : 0 < cntTo x n := by
  obtain ⟨i, hi⟩ := Nat.exists_testBit_of_ne_zero h0
  have hin : i < n := by
    apply Nat.lt_of_not_le
    intro hle
    have : x.testBit i = false := Nat.testBit_lt_two_pow (Nat.lt_of_lt_of_le hx (Nat.pow_le_pow_right (by decide) hle))
    rw [this] at hi
    cases hi
  have := cnt_lt x i n hin hi
  omega

theorem bit_low (t m i : Nat) : (2 ^ t * (2 * m + 1)).testBit i = (decide (t ≤ i) && (2 * m + 1).testBit (i - t)) := by
  rw [Nat.mul_comm, Nat.testBit_mul_two_pow]

theorem and_pred (t m i : Nat) : ((2 ^ t * (2 * m + 1)) &&& (2 ^ t * (2 * m + 1) - 1)).testBit i = ((2 ^ t * (2 * m + 1)).testBit i && !(i == t)) := by
  have h2 : 0 < 2 ^ t := Nat.two_pow_pos t
  have e : 2 ^ t * (2 * m + 1) - 1 = 2 ^ t * (2 * m) + (2 ^ t - 1) := by
    rw [Nat.mul_add, Nat.mul_one]
    omega
  rw [Nat.testBit_and, bit_low, e, Nat.testBit_two_pow_mul_add _ (by omega)]
  by_cases hi : i < t
  · have : ¬ t ≤ i := by omega
    simp [this]
  · have hle : t ≤ i := by omega
    simp only [hi, if_false, hle, decide_true, Bool.true_and]
    by_cases he : i = t
    · subst he
      simp [Nat.testBit_zero]
    · obtain ⟨j, rfl⟩ : ∃ j, i = t + (j + 1) := ⟨i - t - 1, by omega⟩
      have e3 : t + (j + 1) - t = j + 1 := by omega
      have hne : (t + (j + 1) == t) = false := by simp
      rw [e3, hne, Nat.testBit_succ, Nat.testBit_succ]
      have d1 : (2 * m + 1) / 2 = m := by omega
      have d2 : 2 * m / 2 = m := by omega
      rw [d1, d2]
      simp

/-- The list of the ones of a number that is not 0: the lowest, then those of x & (x - 1). -/
theorem ones_cons (x : Nat) (h0 : x ≠ 0) (hx : x < 2 ^ 64) : onesTo x 64 = Lib.ctz 64 x :: onesTo (x &&& (x - 1)) 64 ∧ Lib.ctz 64 x < 64 := by
  have ec : Lib.ctz 64 x = Lib.ctzFrom 64 x := by simp [Lib.ctz, h0]
  obtain ⟨m, hm, ht⟩ := Lib.ctzFrom_spec 64 x (by omega) hx
  rw [ec]
  generalize Lib.ctzFrom 64 x = t at hm ht ⊢
  refine ⟨?_, ht⟩
  have hA : ∀ i, (x &&& (x - 1)).testBit i = (x.testBit i && !(i == t)) := by
    intro i
    rw [hm]
    exact and_pred t m i
  have hL : ∀ i, i < t → x.testBit i = false := by
    intro i hi
    rw [hm, bit_low]
    have : ¬ t ≤ i := by omega
    simp [this]
  have hT : x.testBit t = true := by
    rw [hm, bit_low]
    simp [Nat.testBit_zero]
  have e : 64 = t + 1 + (63 - t) := by omega
  rw [e, ones_cut x t _ hT]
  have z1 : onesTo x t = [] := by
    unfold onesTo
    rw [List.filter_eq_nil_iff]
    intro i hi
    rw [hL i (by simpa using hi)]
    simp
  rw [z1, List.nil_append]
  congr 1
  unfold onesTo
  rw [range_cut, List.filter_append]
  have z2 : (List.range t).filter (fun i => (x &&& (x - 1)).testBit i) = [] := by
    rw [List.filter_eq_nil_iff]
    intro i hi
    rw [hA, hL i (by simpa using hi)]
    simp
  have z3 : (x &&& (x - 1)).testBit t = false := by rw [hA]; simp
  rw [z2, List.nil_append, List.filter_cons, z3]
  simp only [Bool.false_eq_true, if_false]
  apply List.filter_congr
  intro i hi
  have hi2 : t + 1 ≤ i := by
    rw [List.mem_range'_1] at hi
    exact hi.1
  have hne : (i == t) = false := by simp; omega
  rw [hA, hne]
  simp

/-- k steps of 'set &= set - 1'. -/
def clr : Nat → Nat → Nat
  | 0, x => x
  | k + 1, x => clr k (x &&& (x - 1))

theorem clr_step : ∀ (k x : Nat), clr (k + 1) x = clr k x &&& (clr k x - 1)
  | 0, x => rfl
  | k + 1, x => by
    show clr (k + 1) (x &&& (x - 1)) = _
    rw [clr_step k]
    rfl

theorem clr_lt (k x n : Nat) (hx : x < n) : clr k x < n := by
  induction k generalizing x with
  | zero => exact hx
  | succ k ih => exact ih _ (Nat.lt_of_le_of_lt Nat.and_le_left hx)

theorem clr_ones : ∀ (k x : Nat), x < 2 ^ 64 → k < cntTo x 64 → clr k x ≠ 0 ∧ (onesTo x 64)[k]? = some (Lib.ctz 64 (clr k x)) ∧ Lib.ctz 64 (clr k x) < 64
  | 0, x, hx, hk => by
    have h0 : x ≠ 0 := by
      intro e
      subst e
      revert hk
      decide
    obtain ⟨e, hl⟩ := ones_cons x h0 hx
    exact ⟨h0, by rw [e]; rfl, hl⟩
  | k + 1, x, hx, hk => by
    have h0 : x ≠ 0 := by
      intro e
      subst e
      have : cntTo 0 64 = 0 := by decide
      omega
    obtain ⟨e, hl⟩ := ones_cons x h0 hx
    have hk' : k < cntTo (x &&& (x - 1)) 64 := by
      unfold cntTo at hk ⊢
      rw [e] at hk
      simpa using hk
    have := clr_ones k (x &&& (x - 1)) (Nat.lt_of_le_of_lt Nat.and_le_left hx) hk'
    refine ⟨this.1, ?_, this.2.2⟩
    rw [e, List.getElem?_cons_succ]
    exact this.2.1

end Go.Proofs.YbulkavueDoor
