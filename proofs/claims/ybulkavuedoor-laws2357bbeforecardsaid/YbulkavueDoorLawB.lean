/-
  The walk of LawS2357BBefore.
-/
import Derived.Test.YbulkavueDoorMake
namespace Go.Proofs.YbulkavueDoor
open Go.RowKit

set_option maxRecDepth 100000 in
set_option maxHeartbeats 1000000 in
theorem before_h0 (x y z : Nat) (w : World) (hx : x < 18446744073709551616) (hy : y < 18446744073709551616) (h0 : x % 16777216 = 0) :
    Calls Ybad.prog 4 #[.int .u64 x, .int .u64 y, .int .u64 z] w fun e w' => e = .returned (.bool true) ∧ Below w.heap.size w w' := by
  have K := make_any x y w hx hy
  rw [h0] at K
  have HK := K
  have HK2 : Hid (Calls Ybad.prog 6 #[.int .u64 x, .int .u64 y] w fun e w' => e = .returned (.tuple #[.pointer (some ⟨w.heap.size, 0, none⟩), .int .u64 (0 : Nat), .int .u64 (y % 1152921504606846976 : Nat)]) ∧
      w'.cell? ⟨w.heap.size, 0, none⟩ = some (.int .u64 (y % 1152921504606846976 : Nat)) ∧ w'.cell? ⟨w.heap.size, 1, none⟩ = some (.int .u64 (0 : Nat)) ∧ Below w.heap.size w w') := K
  clear K HK
  generalize y % 1152921504606846976 = M at *
  go_enter Ybad.func4, Ybad.ntmps4
  go_wp2_with fail
  refine HK2.out.mono ?_
  rintro e w1 ⟨rfl, c0, c1, hb⟩
  go_wp2_with fail
  go_ret
  exact ⟨rfl, hb⟩

set_option maxRecDepth 100000 in
set_option maxHeartbeats 1000000 in
theorem before_m0 (x y z : Nat) (w : World) (hx : x < 18446744073709551616) (hy : y < 18446744073709551616) (h0 : x % 16777216 ≠ 0) (m0 : y % 1152921504606846976 = 0) :
    Calls Ybad.prog 4 #[.int .u64 x, .int .u64 y, .int .u64 z] w fun e w' => e = .returned (.bool true) ∧ Below w.heap.size w w' := by
  have K := make_any x y w hx hy
  rw [m0] at K
  have HK2 : Hid (Calls Ybad.prog 6 #[.int .u64 x, .int .u64 y] w fun e w' => e = .returned (.tuple #[.pointer (some ⟨w.heap.size, 0, none⟩), .int .u64 (x % 16777216 : Nat), .int .u64 (0 : Nat)]) ∧
      w'.cell? ⟨w.heap.size, 0, none⟩ = some (.int .u64 (0 : Nat)) ∧ w'.cell? ⟨w.heap.size, 1, none⟩ = some (.int .u64 (x % 16777216 : Nat)) ∧ Below w.heap.size w w') := K
  clear K
  generalize x % 16777216 = H at *
  have hH : ((H : Int) == 0) = false := by simp; omega
  go_enter Ybad.func4, Ybad.ntmps4
  go_wp2_with fail
  refine HK2.out.mono ?_
  rintro e w1 ⟨rfl, c0, c1, hb⟩
  go_wp2_with fail
  go_ret
  exact ⟨rfl, hb⟩

set_option maxRecDepth 100000 in
set_option maxHeartbeats 1000000 in
theorem before_law (x y z : Nat) (w : World) (hx : x < 18446744073709551616) (hy : y < 18446744073709551616) (hz : z < 18446744073709551616) (h0 : x % 16777216 ≠ 0) (m0 : y % 1152921504606846976 ≠ 0) (hT : Tab w) :
    Calls Ybad.prog 4 #[.int .u64 x, .int .u64 y, .int .u64 z] w fun e w' => e = .returned (.bool true) ∧ Below w.heap.size w w' := by
  have K := make_any x y w hx hy
  have HK2 : Hid (Calls Ybad.prog 6 #[.int .u64 x, .int .u64 y] w fun e w' => e = .returned (.tuple #[.pointer (some ⟨w.heap.size, 0, none⟩), .int .u64 (x % 16777216 : Nat), .int .u64 (y % 1152921504606846976 : Nat)]) ∧
      w'.cell? ⟨w.heap.size, 0, none⟩ = some (.int .u64 (y % 1152921504606846976 : Nat)) ∧ w'.cell? ⟨w.heap.size, 1, none⟩ = some (.int .u64 (x % 16777216 : Nat)) ∧ Below w.heap.size w w') := K
  clear K
  have lH : x % 16777216 < 16777216 := Nat.mod_lt _ (by decide)
  have lM : y % 1152921504606846976 < 1152921504606846976 := Nat.mod_lt _ (by decide)
  generalize x % 16777216 = H at *
  generalize y % 1152921504606846976 = M at *
  have hH : ((H : Int) == 0) = false := by simp; omega
  have hM : ((M : Int) == 0) = false := by simp; omega
  have kH : Hid (∀ w, Calls Ybad.prog 7 #[.int .u64 H] w fun e w' => e = .returned (.int .i64 (cntTo H 64)) ∧ w' = w) := fun w => pop_any H w (by omega)
  have kM : Hid (∀ w, Calls Ybad.prog 7 #[.int .u64 M] w fun e w' => e = .returned (.int .i64 (cntTo M 64)) ∧ w' = w) := fun w => pop_any M w (by omega)
  have q0 : 0 < cntTo H 64 := cnt_pos H 64 (by omega) h0
  have p0 : 0 < cntTo M 64 := cnt_pos M 64 (by omega) m0
  have q1 : cntTo H 64 ≤ 24 := by rw [cnt_far H 24 64 lH (by decide)]; exact cnt_le H 24
  have p1 : cntTo M 64 ≤ 60 := by rw [cnt_far M 60 64 lM (by decide)]; exact cnt_le M 60
  obtain ⟨kk, hkk⟩ : ∃ kk, z % (cntTo H 64 * cntTo M 64) = kk := ⟨_, rfl⟩
  have hT0 : 0 < cntTo H 64 * cntTo M 64 := Nat.mul_pos q0 p0
  have hT1 : cntTo H 64 * cntTo M 64 ≤ 24 * 60 := Nat.mul_le_mul q1 p1
  have hkT : kk < cntTo H 64 * cntTo M 64 := hkk ▸ Nat.mod_lt _ hT0
  have hq : kk / cntTo M 64 < cntTo H 64 := (Nat.div_lt_iff_lt_mul p0).2 hkT
  have KD : Hid (∀ b w, w.cell? ⟨b, 0, none⟩ = some (.int .u64 M) → w.cell? ⟨b, 1, none⟩ = some (.int .u64 H) → Tab w → Calls Ybad.prog 8 #[.pointer (some ⟨b, 0, none⟩), .int .i64 ((kk : Int) + 1)] w fun e w' => ∃ hh mm : Nat, e = .returned (.int .i64 (hh * 3600 + mm * 60)) ∧ Facts H M kk (cntTo M 64) (cntTo H 64) hh mm ∧ w' = w.drew) := by
    intro b w c0 c1 hT
    refine (day_any b H M kk w c0 c1 lH lM m0 hq (by omega) hT).mono ?_
    rintro e w' ⟨hh, mm, rfl, o1, o2, rfl⟩
    exact ⟨hh, mm, rfl, facts_of H M kk hh mm lH lM o1 o2, rfl⟩
  have KB : Hid (∀ b hh mm w, w.cell? ⟨b, 0, none⟩ = some (.int .u64 M) → w.cell? ⟨b, 1, none⟩ = some (.int .u64 H) → Facts H M kk (cntTo M 64) (cntTo H 64) hh mm → Calls Ybad.prog 9 #[.pointer (some ⟨b, 0, none⟩), .int .i64 (hh * 3600 + mm * 60)] w fun e w' => e = .returned (.int .i64 kk) ∧ w' = w.drew) := by
    intro b hh mm w c0 c1 f
    refine (before_any b H M hh mm w c0 c1 lH lM f.h24 f.m60 f.hb).mono ?_
    rintro e w' ⟨rfl, rfl⟩
    refine ⟨?_, rfl⟩
    have e : ((cntTo H hh : Nat) : Int) * ((cntTo M 64 : Nat) : Int) + ((cntTo M mm : Nat) : Int) = (kk : Int) := by
      rw [f.ch, f.cm, ← Int.natCast_mul, ← Int.natCast_add, Nat.mul_comm, Nat.div_add_mod]
    rw [e]
  have eT : ((cntTo H 64 : Nat) : Int) * ((cntTo M 64 : Nat) : Int) = ((cntTo H 64 * cntTo M 64 : Nat) : Int) := (Int.natCast_mul _ _).symm
  have HT : Hid (Tab w) := hT
  clear hT hq h0 m0
  generalize cntTo H 64 = Q at *
  generalize cntTo M 64 = P at *
  generalize Q * P = T at *
  have eK : (z : Int) % (T : Int) = (kk : Int) := by rw [← hkk, Int.natCast_emod]
  have hTz : ¬ T = 0 := by omega
  clear hkk
  go_enter Ybad.func4, Ybad.ntmps4
  go_wp2_with fail
  refine HK2.out.mono ?_
  rintro e w1 ⟨rfl, c0, c1, hb⟩
  clear HK2
  go_wp2_with (first | (go_at_call_of 7 (Value.int IntKind.u64 ↑H); refine (kH.out _).mono ?_; rintro e w' ⟨rfl, rfl⟩) | (go_at_call_of 7 (Value.int IntKind.u64 ↑M); refine (kM.out _).mono ?_; rintro e w' ⟨rfl, rfl⟩))
  refine (KD.out _ _ c0 c1 (HT.out.below hb)).mono ?_
  rintro e w2 ⟨hh, mm, rfl, f, rfl⟩
  have h24 := f.h24
  have m60 := f.m60
  have s1 : bits .and .u64 ((H : Int) / 2 ^ hh) 1 = 1 := by rw [shr_and H hh (by omega), if_pos f.hb]
  have s2 : bits .and .u64 ((M : Int) / 2 ^ mm) 1 = 1 := by rw [shr_and M mm (by omega), if_pos f.mb]
  have F : Hid (Facts H M kk P Q hh mm) := f
  clear f
  obtain ⟨t, ht⟩ : ∃ t : Int, (hh : Int) * 3600 + (mm : Int) * 60 = t := ⟨_, rfl⟩
  rw [ht]
  have t0 : 0 ≤ t := by omega
  have t1 : t < 86400 := by omega
  have t2 : decide (t < 0) = false := by simp; omega
  have t3 : decide (86400 ≤ t) = false := by simp; omega
  have t4 : t % 60 = 0 := by omega
  have e1 : t / 3600 = (hh : Int) := by omega
  have e2 : t % 3600 = (mm : Int) * 60 := by omega
  have e3 : ((mm : Int) * 60) / 60 = (mm : Int) := by omega
  have HT2 : Hid ((hh : Int) * 3600 + (mm : Int) * 60 = t) := ht
  clear ht
  go_wp2_with fail
  rw [← HT2.out]
  refine (KB.out _ hh mm _ (by exact c0) (by exact c1) F.out).mono ?_
  rintro e w3 ⟨rfl, rfl⟩
  go_wp2_with fail
  go_ret
  exact ⟨rfl, hb.drew.drew⟩

theorem before_all (x y z : Nat) (w : World) (hx : x < 18446744073709551616) (hy : y < 18446744073709551616) (hz : z < 18446744073709551616) (hT : Tab w) :
    Calls Ybad.prog 4 #[.int .u64 x, .int .u64 y, .int .u64 z] w fun e w' => e = .returned (.bool true) ∧ Below w.heap.size w w' := by
  by_cases h0 : x % 16777216 = 0
  · exact before_h0 x y z w hx hy h0
  · by_cases m0 : y % 1152921504606846976 = 0
    · exact before_m0 x y z w hx hy h0 m0
    · exact before_law x y z w hx hy hz h0 m0 hT

end Go.Proofs.YbulkavueDoor
