/-
  The walk of zzs2357bbuild.
-/
import Derived.Test.YbulkavueDoorDay
namespace Go.Proofs.YbulkavueDoor
open Go.RowKit

set_option maxRecDepth 100000 in
set_option maxHeartbeats 1000000 in
theorem make_core (x y H M : Nat) (w : World) (m1 : bits .and .u64 (x : Int) 16777215 = (H : Int)) (m2 : bits .and .u64 (y : Int) 1152921504606846975 = (M : Int)) :
    Calls Ybad.prog 6 #[.int .u64 x, .int .u64 y] w fun e w' => e = .returned (.tuple #[.pointer (some ⟨w.heap.size, 0, none⟩), .int .u64 H, .int .u64 M]) ∧
      w'.cell? ⟨w.heap.size, 0, none⟩ = some (.int .u64 M) ∧ w'.cell? ⟨w.heap.size, 1, none⟩ = some (.int .u64 H) ∧ Below w.heap.size w w' := by
  go_enter Ybad.func6, Ybad.ntmps6
  go_wp2
  go_ret3
  exact ⟨rfl, by simp [go_sem], by simp [go_sem], (Below.refl _ _).alloc (Nat.le_refl _) _⟩

theorem make_any (x y : Nat) (w : World) (hx : x < 18446744073709551616) (hy : y < 18446744073709551616) :
    Calls Ybad.prog 6 #[.int .u64 x, .int .u64 y] w fun e w' => e = .returned (.tuple #[.pointer (some ⟨w.heap.size, 0, none⟩), .int .u64 (x % 16777216 : Nat), .int .u64 (y % 1152921504606846976 : Nat)]) ∧
      w'.cell? ⟨w.heap.size, 0, none⟩ = some (.int .u64 (y % 1152921504606846976 : Nat)) ∧ w'.cell? ⟨w.heap.size, 1, none⟩ = some (.int .u64 (x % 16777216 : Nat)) ∧ Below w.heap.size w w' := by
  refine make_core x y _ _ w ?_ ?_
  · exact (and_u64 x 16777215 hx (by decide) 16777215 rfl).trans (congrArg _ (Nat.and_two_pow_sub_one_eq_mod x 24))
  · exact (and_u64 y 1152921504606846975 hy (by decide) 1152921504606846975 rfl).trans (congrArg _ (Nat.and_two_pow_sub_one_eq_mod y 60))

theorem Tab.below {w w' : World} (t : Tab w) (hb : Below w.heap.size w w') : Tab w' := fun j hj => by
  have h := t j hj
  have hk : 3 < w.heap.size := by
    apply Decidable.byContradiction
    intro hn
    have : w.heap[3]? = none := by rw [Array.getElem?_eq_none_iff]; omega
    simp [World.cell?, this] at h
  exact (hb.cell (p := ⟨3, j, none⟩) hk).trans h

/-- What the two laws share: the numbers that come out of the library, named. -/
structure Facts (H M kk P Q hh mm : Nat) : Prop where
  h24 : hh < 24
  m60 : mm < 60
  hb : H.testBit hh = true
  mb : M.testBit mm = true
  ch : cntTo H hh = kk / P
  cm : cntTo M mm = kk % P

theorem bit_lt (x t n : Nat) (hx : x < 2 ^ n) (h : x.testBit t = true) : t < n := by
  apply Nat.lt_of_not_le
  intro hle
  have : x.testBit t = false := Nat.testBit_lt_two_pow (Nat.lt_of_lt_of_le hx (Nat.pow_le_pow_right (by decide) hle))
  rw [this] at h
  cases h

theorem facts_of (H M kk hh mm : Nat) (hH : H < 16777216) (hM : M < 1152921504606846976) (o1 : (onesTo H 64)[kk / cntTo M 64]? = some hh) (o2 : (onesTo M 64)[kk % cntTo M 64]? = some mm) :
    Facts H M kk (cntTo M 64) (cntTo H 64) hh mm := by
  obtain ⟨-, b1, c1⟩ := ones_get _ _ _ _ o1
  obtain ⟨-, b2, c2⟩ := ones_get _ _ _ _ o2
  exact ⟨bit_lt H hh 24 hH b1, bit_lt M mm 60 hM b2, b1, b2, c1, c2⟩

theorem shr_and (x v : Nat) (hx : x < 18446744073709551616) : bits .and .u64 ((x : Int) / 2 ^ v) 1 = if x.testBit v = true then 1 else 0 := by
  have e : (x : Int) / 2 ^ v = ((x / 2 ^ v : Nat) : Int) := by rw [Int.natCast_ediv, Int.natCast_pow]; rfl
  have hle : x / 2 ^ v ≤ x := Nat.div_le_self _ _
  rw [e, and_u64 (x / 2 ^ v) 1 (by omega) (by decide) 1 rfl]
  have h1 : (x / 2 ^ v) &&& 1 = x / 2 ^ v % 2 := Nat.and_two_pow_sub_one_eq_mod _ 1
  rw [h1]
  have h2 : x.testBit v = decide (x / 2 ^ v % 2 = 1) := Nat.testBit_eq_decide_div_mod_eq
  rw [h2]
  by_cases h : x / 2 ^ v % 2 = 1
  · simp [h]
  · have : x / 2 ^ v % 2 = 0 := by omega
    simp [this]

end Go.Proofs.YbulkavueDoor
