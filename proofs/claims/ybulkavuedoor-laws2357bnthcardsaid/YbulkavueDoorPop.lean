/-
  The walks of math/bits.OnesCount64.
-/
import Derived.Test.YbulkavueDoorRows
import Derived.Test.YbulkavueDoorOnes
import Derived.WalkKit
import Derived.WalkSpells
import Derived.WalkLawsBesides
import Derived.Laws.Bits64b
namespace Go.Proofs.YbulkavueDoor
open Go.RowKit

set_option maxRecDepth 100000 in
set_option maxHeartbeats 1000000 in
theorem pop_core (x a1 a2 a b1 b2 b c y y1 y2 y3 n : Nat) (w : World)
    (r1 : bits .and .u64 ((x : Int) / 2) 6148914691236517205 = (a1 : Int)) (r2 : bits .and .u64 (x : Int) 6148914691236517205 = (a2 : Int)) (r3 : IntKind.u64.wrap ((a1 : Int) + (a2 : Int)) = (a : Int))
    (r4 : bits .and .u64 ((a : Int) / 4) 3689348814741910323 = (b1 : Int)) (r5 : bits .and .u64 (a : Int) 3689348814741910323 = (b2 : Int)) (r6 : IntKind.u64.wrap ((b1 : Int) + (b2 : Int)) = (b : Int))
    (r7 : IntKind.u64.wrap ((b : Int) / 16 + (b : Int)) = (c : Int)) (r8 : bits .and .u64 (c : Int) 1085102592571150095 = (y : Int))
    (r9 : IntKind.u64.wrap ((y : Int) + (y : Int) / 256) = (y1 : Int)) (r10 : IntKind.u64.wrap ((y1 : Int) + (y1 : Int) / 65536) = (y2 : Int)) (r11 : IntKind.u64.wrap ((y2 : Int) + (y2 : Int) / 4294967296) = (y3 : Int))
    (r12 : bits .and .i64 (wrap64 (y3 : Int)) 127 = (n : Int)) :
    Calls Ybad.prog 7 #[.int .u64 x] w fun e w' => e = .returned (.int .i64 n) ∧ w' = w := by
  go_enter Ybad.func7, Ybad.ntmps7
  go_wp2
  go_ret
  exact ⟨rfl, rfl⟩

theorem and_u64 (a b : Nat) (ha : a < 18446744073709551616) (hb : b < 18446744073709551616) (c : Int) (hc : c = (b : Int)) : bits .and .u64 (a : Int) c = ((a &&& b : Nat) : Int) := by
  subst hc
  exact bits_and_u64_nat a b ha hb

theorem and_i64_127 (y : Nat) (hy : y < 18446744073709551616) : bits .and .i64 (wrap64 (y : Int)) 127 = ((y % 128 : Nat) : Int) := by
  have h1 : (BitVec.ofInt 64 (wrap64 (y : Int))).toNat = y := by
    rw [BitVec.toNat_ofInt]
    unfold wrap64
    omega
  have h2 : (BitVec.ofInt 64 (127 : Int)).toNat = 127 := by decide
  show IntKind.i64.wrap ((BitVec.ofInt 64 (wrap64 (y : Int)) &&& BitVec.ofInt 64 (127 : Int)).toNat : Int) = _
  have h3 : y &&& 127 = y % 128 := Nat.and_two_pow_sub_one_eq_mod y 7
  rw [BitVec.toNat_and, h1, h2, h3, IntKind.wrap_i64]
  omega

theorem wrap_u64_nat (a : Nat) (h : a < 18446744073709551616) (b : Int) (hb : b = (a : Int)) : IntKind.u64.wrap b = (a : Int) := by
  subst hb
  rw [IntKind.wrap_u64]
  omega

theorem and_le (a m : Nat) : a &&& m ≤ m := Nat.and_le_right

/-- math/bits.OnesCount64: how many ones x has. -/
theorem pop_any (x : Nat) (w : World) (hx : x < 18446744073709551616) :
    Calls Ybad.prog 7 #[.int .u64 x] w fun e w' => e = .returned (.int .i64 (cntTo x 64)) ∧ w' = w := by
  obtain ⟨g1, g2, g3, g4, g5⟩ := fold64_ones x
  obtain ⟨a1, ha1⟩ : ∃ a1, x / 2 &&& 6148914691236517205 = a1 := ⟨_, rfl⟩
  obtain ⟨a2, ha2⟩ : ∃ a2, x &&& 6148914691236517205 = a2 := ⟨_, rfl⟩
  have la1 : a1 ≤ 6148914691236517205 := ha1 ▸ and_le _ _
  have la2 : a2 ≤ 6148914691236517205 := ha2 ▸ and_le _ _
  obtain ⟨a, ha⟩ : ∃ a, a1 + a2 = a := ⟨_, rfl⟩
  obtain ⟨b1, hb1⟩ : ∃ b1, a / 4 &&& 3689348814741910323 = b1 := ⟨_, rfl⟩
  obtain ⟨b2, hb2⟩ : ∃ b2, a &&& 3689348814741910323 = b2 := ⟨_, rfl⟩
  have lb1 : b1 ≤ 3689348814741910323 := hb1 ▸ and_le _ _
  have lb2 : b2 ≤ 3689348814741910323 := hb2 ▸ and_le _ _
  obtain ⟨b, hb⟩ : ∃ b, b1 + b2 = b := ⟨_, rfl⟩
  have ef : fold64 x = (b / 16 + b) &&& 1085102592571150095 := by
    unfold fold64
    simp only [ha1, ha2, ha, hb1, hb2, hb]
  obtain ⟨y, hy⟩ : ∃ y, fold64 x = y := ⟨_, rfl⟩
  rw [hy] at g1 g2 g3 g4 g5 ef
  obtain ⟨y1, hy1⟩ : ∃ y1, y + y / 256 = y1 := ⟨_, rfl⟩
  rw [hy1] at g2 g3 g4 g5
  obtain ⟨y2, hy2⟩ : ∃ y2, y1 + y1 / 65536 = y2 := ⟨_, rfl⟩
  rw [hy2] at g3 g4 g5
  obtain ⟨y3, hy3⟩ : ∃ y3, y2 + y2 / 4294967296 = y3 := ⟨_, rfl⟩
  rw [hy3] at g4 g5
  refine pop_core x a1 a2 a b1 b2 b (b / 16 + b) y y1 y2 y3 (cntTo x 64) w ?_ ?_ ?_ ?_ ?_ ?_ ?_ ?_ ?_ ?_ ?_ ?_
  · rw [← ha1]; exact and_u64 (x / 2) _ (by omega) (by decide) _ rfl
  · rw [← ha2]; exact and_u64 x _ hx (by decide) _ rfl
  · exact wrap_u64_nat a (by omega) _ (by omega)
  · rw [← hb1]; exact and_u64 (a / 4) _ (by omega) (by decide) _ rfl
  · rw [← hb2]; exact and_u64 a _ (by omega) (by decide) _ rfl
  · exact wrap_u64_nat b (by omega) _ (by omega)
  · exact wrap_u64_nat (b / 16 + b) (by omega) _ (by omega)
  · rw [ef]; exact and_u64 (b / 16 + b) _ (by omega) (by decide) _ rfl
  · exact wrap_u64_nat y1 g2 _ (by omega)
  · exact wrap_u64_nat y2 g3 _ (by omega)
  · exact wrap_u64_nat y3 g4 _ (by omega)
  · rw [← g5]; exact and_i64_127 y3 g4

end Go.Proofs.YbulkavueDoor
