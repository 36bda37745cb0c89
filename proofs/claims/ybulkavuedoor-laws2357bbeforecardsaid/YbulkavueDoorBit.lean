/-
  The walks of math/bits.TrailingZeros64, nthBit, has.
-/
import Derived.Test.YbulkavueDoorPop
import Derived.LoopTactic
namespace Go.Proofs.YbulkavueDoor
open Go.RowKit

/-- The table in its variable. -/
def Tab (w : World) : Prop := ∀ j, j < 64 → w.cell? ⟨3, j, none⟩ = some (.int .u8 (Lib.deBruijn64tab.getD j 0))

set_option maxHeartbeats 1000000 in
theorem tz_core (x k idx : Nat) (w : World) (hx0 : ((x : Int) == 0) = false)
    (key : IntKind.u64.wrap (bits BinOp.and IntKind.u64 (x : Int) (IntKind.u64.wrap (-(x : Int))) * 285870213051353865) / 288230376151711744 = (idx : Int))
    (hi : idx < 64) (hk : k < 64) (hcell : w.cell? ⟨3, idx, none⟩ = some (.int .u8 k)) :
    Calls Ybad.prog 20 #[.int .u64 x] w fun e w' => e = .returned (.int .i64 k) ∧ w' = w := by
  go_enter Ybad.func20, Ybad.ntmps20
  go_wp2_with (simp only [key])
  go_ret
  exact ⟨rfl, rfl⟩

theorem tz_key (x a : Nat) (hx : x < 18446744073709551616) (hx0 : x ≠ 0) (hlow : x &&& (18446744073709551616 - x) = a) :
    IntKind.u64.wrap (bits BinOp.and IntKind.u64 (x : Int) (IntKind.u64.wrap (-(x : Int))) * 285870213051353865) / 288230376151711744 = ((a * 285870213051353865 % 18446744073709551616 / 288230376151711744 : Nat) : Int) := by
  have e1 : IntKind.u64.wrap (-(x : Int)) = ((18446744073709551616 - x : Nat) : Int) := by rw [IntKind.wrap_u64]; omega
  rw [e1, bits_and_u64_nat x _ hx (by omega), hlow, IntKind.wrap_u64]
  omega

/-- math/bits.TrailingZeros64 at a number that is not 0. -/
theorem tz_any (x : Nat) (w : World) (hx : x < 18446744073709551616) (hx0 : x ≠ 0) (hT : Tab w) :
    Calls Ybad.prog 20 #[.int .u64 x] w fun e w' => e = .returned (.int .i64 (Lib.ctz 64 x)) ∧ w' = w := by
  obtain ⟨hlow, hk⟩ := Lib.lowest_bit 64 x hx0 hx
  obtain ⟨hi, htab⟩ := Lib.deBruijn64_at _ hk
  have hcell := hT _ hi
  rw [htab] at hcell
  exact tz_core x _ _ w (by simp; omega) (tz_key x _ hx hx0 hlow) hi hk hcell

set_option maxRecDepth 100000 in
set_option maxHeartbeats 1000000 in
/-- nthBit: the k-th one of x, where x has as many. -/
theorem nth_any (x k : Nat) (w : World) (hx : x < 18446744073709551616) (hk : k < cntTo x 64) (hT : Tab w) :
    Calls Ybad.prog 15 #[.int .u64 x, .int .i64 ((k : Int) + 1)] w fun e w' => ∃ t, e = .returned (.int .i64 (t : Nat)) ∧ (onesTo x 64)[k]? = some t ∧ w' = w := by
  have hk64 : k < 64 := Nat.lt_of_lt_of_le hk (cnt_le x 64)
  have HT : Hid (Tab w) := hT
  clear hT
  go_enter Ybad.func15, Ybad.ntmps15
  go_wp2_with fail
  go_loop [0, 1] (fun s i => ∃ j : Nat, j ≤ k ∧ i = .int .i64 ((k : Int) - j + 1) ∧ s = .int .u64 (clr j x)) (fun _ i => (intOf i).toNat)
  case atStart => exact ⟨0, by omega, by go_num, rfl⟩
  case round =>
    obtain ⟨j, hj, rfl, rfl⟩ := hrel
    obtain ⟨h0, ho, -⟩ := clr_ones j x hx (by omega)
    have hl := clr_lt j x _ hx
    by_cases hlt : j < k
    · have HS : Hid (clr (j + 1) x = clr j x &&& (clr j x - 1)) := clr_step j x
      clear ho
      generalize clr j x = s at *
      have e1 : IntKind.u64.wrap ((s : Int) - 1) = ((s - 1 : Nat) : Int) := by rw [IntKind.wrap_u64]; omega
      have e2 := bits_and_u64_nat s (s - 1) hl (by omega)
      generalize s - 1 = s' at *
      generalize s &&& s' = s'' at *
      clear hl
      go_wp2_with fail
      go_round
      case rel => exact ⟨j + 1, by omega, by go_num, by rw [HS.out]⟩
      case measure => simp [intOf]; omega
    · obtain rfl : j = k := by omega
      have HO : Hid ((onesTo x 64)[j]? = some (Lib.ctz 64 (clr j x))) := ho
      have hz := tz_any (clr j x) w hl h0 HT.out
      have HZ : Hid (Calls Ybad.prog 20 #[.int .u64 (clr j x)] w fun e w' => e = .returned (.int .i64 (Lib.ctz 64 (clr j x))) ∧ w' = w) := hz
      clear hz ho hl
      generalize Lib.ctz 64 (clr j x) = t at *
      generalize clr j x = s at *
      go_wp2_with fail
      refine HZ.out.mono ?_
      rintro e w' ⟨rfl, rfl⟩
      go_wp2_with fail
      go_ret
      exact ⟨t, rfl, HO.out, rfl⟩


theorem nth_at (x k : Nat) (i : Int) (w : World) (hi : i = (k : Int) + 1) (hx : x < 18446744073709551616) (hk : k < cntTo x 64) (hT : Tab w) :
    Calls Ybad.prog 15 #[.int .u64 x, .int .i64 i] w fun e w' => ∃ t, e = .returned (.int .i64 (t : Nat)) ∧ (onesTo x 64)[k]? = some t ∧ w' = w := by
  subst hi
  exact nth_any x k w hx hk hT

theorem wrap_pow (v : Nat) (hv : v < 64) : IntKind.u64.wrap (2 ^ v : Int) = ((2 ^ v : Nat) : Int) := by
  have : 2 ^ v < 2 ^ 64 := Nat.pow_lt_pow_right (by decide) hv
  exact wrap_u64_nat (2 ^ v) this _ (by rw [Int.natCast_pow]; rfl)

theorem and_bit (x v : Nat) (hx : x < 18446744073709551616) (hv : v < 64) : (bits .and .u64 (x : Int) (IntKind.u64.wrap (2 ^ v : Int)) != 0) = x.testBit v := by
  have hp : 2 ^ v < 2 ^ 64 := Nat.pow_lt_pow_right (by decide) hv
  rw [wrap_pow v hv, bits_and_u64_nat x (2 ^ v) hx hp]
  cases h : x.testBit v with
  | false =>
    have : x &&& 2 ^ v = 0 := by
      apply Nat.eq_of_testBit_eq
      intro i
      rw [Nat.testBit_and, Nat.testBit_two_pow, Nat.zero_testBit]
      by_cases e : v = i
      · subst e; simp [h]
      · simp [e]
    rw [this]
    rfl
  | true =>
    have : x &&& 2 ^ v ≠ 0 := by
      intro e
      have h2 : (x &&& 2 ^ v).testBit v = true := by rw [Nat.testBit_and, Nat.testBit_two_pow, h]; simp
      rw [e, Nat.zero_testBit] at h2
      cases h2
    rw [bne_iff_ne]
    omega

set_option maxRecDepth 100000 in
set_option maxHeartbeats 1000000 in
theorem has_any (x v : Nat) (w : World) (hx : x < 18446744073709551616) (hv : v < 64) :
    Calls Ybad.prog 16 #[.int .u64 x, .int .i64 v] w fun e w' => e = .returned (.bool (x.testBit v)) ∧ w' = w := by
  have E : Hid ((bits .and .u64 (x : Int) (IntKind.u64.wrap (2 ^ v : Int)) != 0) = x.testBit v) := and_bit x v hx hv
  go_enter Ybad.func16, Ybad.ntmps16
  go_wp2_with fail
  go_ret
  exact ⟨by rw [E.out]; rfl, rfl⟩

end Go.Proofs.YbulkavueDoor
