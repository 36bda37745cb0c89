/-
  The walk of LawS2357BNth.
-/
import Derived.Test.YbulkavueDoorMake
namespace Go.Proofs.YbulkavueDoor
open Go.RowKit

/-- What 'want' holds when c pairs have been met. -/
def wnt (kk : Nat) (t : Int) (c : Nat) : Int := if kk < c then t else -1

theorem wnt_zero (kk : Nat) (t : Int) : wnt kk t 0 = -1 := rfl
theorem wnt_hit (kk : Nat) (t : Int) : wnt kk t (kk + 1) = t := by unfold wnt; rw [if_pos (by omega)]
theorem wnt_miss (kk c : Nat) (t : Int) (h : c ≠ kk) : wnt kk t (c + 1) = wnt kk t c := by
  unfold wnt
  by_cases g : kk < c
  · rw [if_pos g, if_pos (by omega)]
  · rw [if_neg g, if_neg (by omega)]
theorem wnt_past (kk c : Nat) (t : Int) (h : kk < c) : wnt kk t c = t := by unfold wnt; rw [if_pos h]

theorem uniq (H M kk hh mm a m : Nat) (f : Facts H M kk (cntTo M 64) (cntTo H 64) hh mm) (ha : a < 24) (hm : m < 60) (ba : H.testBit a = true) (bm : M.testBit m = true) (e : cntTo H a * cntTo M 64 + cntTo M m = kk) : a = hh ∧ m = mm := by
  have lt : cntTo M m < cntTo M 64 := cnt_lt M m 64 (by omega) bm
  have d1 : kk / cntTo M 64 = cntTo H a := by
    rw [← e, Nat.add_comm, Nat.add_mul_div_right _ _ (by omega), Nat.div_eq_of_lt lt, Nat.zero_add]
  have d2 : kk % cntTo M 64 = cntTo M m := by
    rw [← e, Nat.add_comm, Nat.add_mul_mod_self_right, Nat.mod_eq_of_lt lt]
  have h24 := f.h24
  have m60 := f.m60
  have x1 := ones_at H a 64 (by omega) ba
  have x2 := ones_at H hh 64 (by omega) f.hb
  have y1 := ones_at M m 64 (by omega) bm
  have y2 := ones_at M mm 64 (by omega) f.mb
  rw [f.ch, d1] at x2
  rw [f.cm, d2] at y2
  exact ⟨Option.some.inj (x1.symm.trans x2), Option.some.inj (y1.symm.trans y2)⟩

set_option maxRecDepth 100000 in
set_option maxHeartbeats 1000000 in
theorem nth_h0 (x y z : Nat) (w : World) (hx : x < 18446744073709551616) (hy : y < 18446744073709551616) (h0 : x % 16777216 = 0) :
    Calls Ybad.prog 3 #[.int .u64 x, .int .u64 y, .int .u64 z] w fun e w' => e = .returned (.bool true) ∧ Below w.heap.size w w' := by
  have K := make_any x y w hx hy
  rw [h0] at K
  have HK := K
  have HK2 : Hid (Calls Ybad.prog 6 #[.int .u64 x, .int .u64 y] w fun e w' => e = .returned (.tuple #[.pointer (some ⟨w.heap.size, 0, none⟩), .int .u64 (0 : Nat), .int .u64 (y % 1152921504606846976 : Nat)]) ∧
      w'.cell? ⟨w.heap.size, 0, none⟩ = some (.int .u64 (y % 1152921504606846976 : Nat)) ∧ w'.cell? ⟨w.heap.size, 1, none⟩ = some (.int .u64 (0 : Nat)) ∧ Below w.heap.size w w') := K
  clear K HK
  generalize y % 1152921504606846976 = M at *
  go_enter Ybad.func3, Ybad.ntmps3
  go_wp2_with fail
  refine HK2.out.mono ?_
  rintro e w1 ⟨rfl, c0, c1, hb⟩
  go_wp2_with fail
  go_ret
  exact ⟨rfl, hb⟩

set_option maxRecDepth 100000 in
set_option maxHeartbeats 1000000 in
theorem nth_m0 (x y z : Nat) (w : World) (hx : x < 18446744073709551616) (hy : y < 18446744073709551616) (h0 : x % 16777216 ≠ 0) (m0 : y % 1152921504606846976 = 0) :
    Calls Ybad.prog 3 #[.int .u64 x, .int .u64 y, .int .u64 z] w fun e w' => e = .returned (.bool true) ∧ Below w.heap.size w w' := by
  have K := make_any x y w hx hy
  rw [m0] at K
  have HK2 : Hid (Calls Ybad.prog 6 #[.int .u64 x, .int .u64 y] w fun e w' => e = .returned (.tuple #[.pointer (some ⟨w.heap.size, 0, none⟩), .int .u64 (x % 16777216 : Nat), .int .u64 (0 : Nat)]) ∧
      w'.cell? ⟨w.heap.size, 0, none⟩ = some (.int .u64 (0 : Nat)) ∧ w'.cell? ⟨w.heap.size, 1, none⟩ = some (.int .u64 (x % 16777216 : Nat)) ∧ Below w.heap.size w w') := K
  clear K
  generalize x % 16777216 = H at *
  have hH : ((H : Int) == 0) = false := by simp; omega
  go_enter Ybad.func3, Ybad.ntmps3
  go_wp2_with fail
  refine HK2.out.mono ?_
  rintro e w1 ⟨rfl, c0, c1, hb⟩
  go_wp2_with fail
  go_ret
  exact ⟨rfl, hb⟩

set_option maxRecDepth 100000 in
set_option maxHeartbeats 1000000 in
theorem nth_law (x y z : Nat) (w : World) (hx : x < 18446744073709551616) (hy : y < 18446744073709551616) (hz : z < 18446744073709551616) (h0 : x % 16777216 ≠ 0) (m0 : y % 1152921504606846976 ≠ 0) (hT : Tab w) :
    Calls Ybad.prog 3 #[.int .u64 x, .int .u64 y, .int .u64 z] w fun e w' => e = .returned (.bool true) ∧ Below w.heap.size w w' := by
  have K := make_any x y w hx hy
  have HK2 : Hid (Calls Ybad.prog 6 #[.int .u64 x, .int .u64 y] w fun e w' => e = .returned (.tuple #[.pointer (some ⟨w.heap.size, 0, none⟩), .int .u64 (x % 16777216 : Nat), .int .u64 (y % 1152921504606846976 : Nat)]) ∧
      w'.cell? ⟨w.heap.size, 0, none⟩ = some (.int .u64 (y % 1152921504606846976 : Nat)) ∧ w'.cell? ⟨w.heap.size, 1, none⟩ = some (.int .u64 (x % 16777216 : Nat)) ∧ Below w.heap.size w w') := K
  clear K
  have lH : x % 16777216 < 16777216 := Nat.mod_lt _ (by decide)
  have lM : y % 1152921504606846976 < 1152921504606846976 := Nat.mod_lt _ (by decide)
  generalize x % 16777216 = H at *
  generalize y % 1152921504606846976 = M at *
  have hH : ((H : Int) == 0) = false := by simp; omega
  have hM : ((M : Int) == 0) = false := by simp; omega
  have kH : Hid (∀ w, Calls Ybad.prog 7 #[.int .u64 H] w fun e w' => e = .returned (.int .i64 (cntTo H 64)) ∧ w' = w) := fun w => pop_any H w (by omega)
  have kM : Hid (∀ w, Calls Ybad.prog 7 #[.int .u64 M] w fun e w' => e = .returned (.int .i64 (cntTo M 64)) ∧ w' = w) := fun w => pop_any M w (by omega)
  have q0 : 0 < cntTo H 64 := cnt_pos H 64 (by omega) h0
  have p0 : 0 < cntTo M 64 := cnt_pos M 64 (by omega) m0
  have q1 : cntTo H 64 ≤ 24 := by rw [cnt_far H 24 64 lH (by decide)]; exact cnt_le H 24
  have p1 : cntTo M 64 ≤ 60 := by rw [cnt_far M 60 64 lM (by decide)]; exact cnt_le M 60
  obtain ⟨kk, hkk⟩ : ∃ kk, z % (cntTo H 64 * cntTo M 64) = kk := ⟨_, rfl⟩
  have hT0 : 0 < cntTo H 64 * cntTo M 64 := Nat.mul_pos q0 p0
  have hT1 : cntTo H 64 * cntTo M 64 ≤ 24 * 60 := Nat.mul_le_mul q1 p1
  have hkT : kk < cntTo H 64 * cntTo M 64 := hkk ▸ Nat.mod_lt _ hT0
  have hq : kk / cntTo M 64 < cntTo H 64 := (Nat.div_lt_iff_lt_mul p0).2 hkT
  have KD : Hid (∀ b w, w.cell? ⟨b, 0, none⟩ = some (.int .u64 M) → w.cell? ⟨b, 1, none⟩ = some (.int .u64 H) → Tab w → Calls Ybad.prog 8 #[.pointer (some ⟨b, 0, none⟩), .int .i64 ((kk : Int) + 1)] w fun e w' => ∃ hh mm : Nat, e = .returned (.int .i64 (hh * 3600 + mm * 60)) ∧ Facts H M kk (cntTo M 64) (cntTo H 64) hh mm ∧ w' = w.drew) := by
    intro b w c0 c1 hT
    refine (day_any b H M kk w c0 c1 lH lM m0 hq (by omega) hT).mono ?_
    rintro e w' ⟨hh, mm, rfl, o1, o2, rfl⟩
    exact ⟨hh, mm, rfl, facts_of H M kk hh mm lH lM o1 o2, rfl⟩
  have eT : ((cntTo H 64 : Nat) : Int) * ((cntTo M 64 : Nat) : Int) = ((cntTo H 64 * cntTo M 64 : Nat) : Int) := (Int.natCast_mul _ _).symm
  have HT : Hid (Tab w) := hT
  have eP : Hid (cntTo M 60 = cntTo M 64) := (cnt_far M 60 64 lM (by decide)).symm
  have eQ : Hid (cntTo H 24 = cntTo H 64) := (cnt_far H 24 64 lH (by decide)).symm
  have U : Hid (∀ a m hh mm, Facts H M kk (cntTo M 64) (cntTo H 64) hh mm → a < 24 → m < 60 → H.testBit a = true → M.testBit m = true → cntTo H a * cntTo M 64 + cntTo M m = kk → a = hh ∧ m = mm) := fun a m hh mm f ha hm ba bm e => uniq H M kk hh mm a m f ha hm ba bm e
  clear hT hq h0 m0
  generalize cntTo H 64 = Q at *
  generalize cntTo M 64 = P at *
  generalize hQP : Q * P = T at *
  have HQP : Hid (Q * P = T) := hQP
  clear hQP
  have eK : (z : Int) % (T : Int) = (kk : Int) := by rw [← hkk, Int.natCast_emod]
  have hTz : ¬ T = 0 := by omega
  clear hkk
  go_enter Ybad.func3, Ybad.ntmps3
  go_wp2_with fail
  refine HK2.out.mono ?_
  rintro e w1 ⟨rfl, c0, c1, hb⟩
  clear HK2
  go_wp2_with (first | (go_at_call_of 7 (Value.int IntKind.u64 ↑H); refine (kH.out _).mono ?_; rintro e w' ⟨rfl, rfl⟩) | (go_at_call_of 7 (Value.int IntKind.u64 ↑M); refine (kM.out _).mono ?_; rintro e w' ⟨rfl, rfl⟩))
  refine (KD.out _ _ c0 c1 (HT.out.below hb)).mono ?_
  rintro e w2 ⟨hh, mm, rfl, f, rfl⟩
  have h24 := f.h24
  have m60 := f.m60
  have F : Hid (Facts H M kk P Q hh mm) := f
  clear f KD
  obtain ⟨t, ht⟩ : ∃ t : Int, (hh : Int) * 3600 + (mm : Int) * 60 = t := ⟨_, rfl⟩
  rw [ht]
  have HT2 : Hid ((hh : Int) * 3600 + (mm : Int) * 60 = t) := ht
  clear ht
  go_wp2_with fail
  go_loop [13, 14, 15] (fun c v i => ∃ a : Nat, a ≤ 24 ∧ i = .int .i64 a ∧ c = .int .i64 (cntTo H a * P : Nat) ∧ v = .int .i64 (wnt kk t (cntTo H a * P))) (fun _ _ i => 24 - (intOf i).toNat)
  case atStart => exact ⟨0, by omega, rfl, by rw [cnt_zero, Nat.zero_mul]; rfl, by rw [cnt_zero, Nat.zero_mul, wnt_zero]⟩
  case round =>
    obtain ⟨a, ha, rfl, rfl, rfl⟩ := hrel
    by_cases hlt : a < 24
    · by_cases hb' : H.testBit a = true
      · have s1 : bits .and .u64 ((H : Int) / 2 ^ a) 1 = 1 := by rw [shr_and H a (by omega), if_pos hb']
        have HB : Hid (H.testBit a = true) := hb'
        have HN : Hid (cntTo H (a + 1) = cntTo H a + 1) := cnt_yes H a hb'
        have HU : Hid (∀ m, m < 60 → M.testBit m = true → cntTo H a * P + cntTo M m = kk → (a : Int) * 3600 + (m : Int) * 60 = t) := by
          intro m hm bm e
          obtain ⟨r1, r2⟩ := U.out a m hh mm F.out hlt hm hb' bm e
          rw [r1, r2]
          exact HT2.out
        have lC : cntTo H a * P ≤ 24 * 60 := Nat.mul_le_mul (by have := cnt_le H a; omega) p1
        have HC : Hid (cntTo H (a + 1) * P = cntTo H a * P + P) := by
          show cntTo H (a + 1) * P = cntTo H a * P + P
          rw [HN.out, Nat.add_mul, Nat.one_mul]
        clear hb' HN
        generalize cntTo H a * P = C at *
        go_wp2_with fail
        go_loop [13, 14, 16] (fun c v i => ∃ m : Nat, m ≤ 60 ∧ i = .int .i64 m ∧ c = .int .i64 (C + cntTo M m : Nat) ∧ v = .int .i64 (wnt kk t (C + cntTo M m))) (fun _ _ i => 60 - (intOf i).toNat)
        case atStart => exact ⟨0, by omega, rfl, by rw [cnt_zero, Nat.add_zero], by rw [cnt_zero, Nat.add_zero]⟩
        case round =>
          obtain ⟨m, hm, rfl, rfl, rfl⟩ := hrel
          have lm := cnt_le M m
          by_cases hmt : m < 60
          · by_cases bm : M.testBit m = true
            · have s2 : bits .and .u64 ((M : Int) / 2 ^ m) 1 = 1 := by rw [shr_and M m (by omega), if_pos bm]
              have HM : Hid (cntTo M (m + 1) = cntTo M m + 1) := cnt_yes M m bm
              by_cases hk : C + cntTo M m = kk
              · have HV : Hid ((a : Int) * 3600 + (m : Int) * 60 = t) := HU.out m hmt bm hk
                have HW : Hid (wnt kk t (C + (cntTo M m + 1)) = t) := by
                  show wnt kk t (C + (cntTo M m + 1)) = t
                  rw [← Nat.add_assoc, hk, wnt_hit]
                have hke : (((C + cntTo M m : Nat) : Int) + 1 == (kk : Int) + 1) = true := by rw [hk]; simp
                clear bm
                generalize cntTo M m = c at *
                have HK : Hid (C + c = kk) := hk
                clear hk
                go_wp2_with fail
                go_round
                case rel => exact ⟨m + 1, by omega, by go_num, by rw [HM.out]; go_num, by rw [HM.out, HW.out, HV.out]⟩
                case measure => simp [intOf]; omega
              · have HW : Hid (wnt kk t (C + (cntTo M m + 1)) = wnt kk t (C + cntTo M m)) := by
                  show wnt kk t (C + (cntTo M m + 1)) = wnt kk t (C + cntTo M m)
                  rw [← Nat.add_assoc, wnt_miss kk _ t hk]
                clear bm
                generalize cntTo M m = c at *
                have hke : ((C : Int) + (c : Int) + 1 == (kk : Int) + 1) = false := by simp; omega
                have hk2 : ¬ ((C : Int) + (c : Int) = (kk : Int)) := by omega
                generalize wnt kk t (C + c) = v at *
                go_wp2_with fail
                go_round
                case rel => exact ⟨m + 1, by omega, by go_num, by rw [HM.out]; go_num, by rw [HM.out, HW.out]⟩
                case measure => simp [intOf]; omega
            · have bm' : M.testBit m = false := by simpa using bm
              have s2 : bits .and .u64 ((M : Int) / 2 ^ m) 1 = 0 := by rw [shr_and M m (by omega), if_neg bm]
              have HM : Hid (cntTo M (m + 1) = cntTo M m) := cnt_no M m bm'
              clear bm bm'
              generalize cntTo M m = c at *
              generalize hv : wnt kk t (C + c) = v at *
              have HV : Hid (wnt kk t (C + c) = v) := hv
              clear hv
              go_wp2_with fail
              go_round
              case rel => exact ⟨m + 1, by omega, by go_num, by rw [HM.out], by rw [HM.out, HV.out]⟩
              case measure => simp [intOf]; omega
          · obtain rfl : m = 60 := by omega
            have E : cntTo M 60 = P := eP.out
            rw [E]
            clear E
            generalize hv : wnt kk t (C + P) = v at *
            have HV : Hid (wnt kk t (C + P) = v) := hv
            clear hv
            go_wp2_with fail
            go_round
            case rel => exact ⟨a + 1, by omega, by go_num, by rw [HC.out], by rw [HC.out, HV.out]⟩
            case measure => simp [intOf]; omega
      · have hb2 : H.testBit a = false := by simpa using hb'
        have s1 : bits .and .u64 ((H : Int) / 2 ^ a) 1 = 0 := by rw [shr_and H a (by omega), if_neg hb']
        have HN : Hid (cntTo H (a + 1) = cntTo H a) := cnt_no H a hb2
        clear hb' hb2
        generalize hC : cntTo H a * P = C at *
        have HC : Hid (cntTo H a * P = C) := hC
        clear hC
        generalize hv : wnt kk t C = v at *
        have HV : Hid (wnt kk t C = v) := hv
        clear hv
        go_wp2_with fail
        go_round
        case rel => exact ⟨a + 1, by omega, by go_num, by rw [HN.out, HC.out], by rw [HN.out, HC.out, HV.out]⟩
        case measure => simp [intOf]; omega
    · obtain rfl : a = 24 := by omega
      have E : cntTo H 24 * P = T := by rw [eQ.out]; exact HQP.out
      rw [E, wnt_past kk T t hkT]
      clear E
      go_wp2_with fail
      go_ret
      exact ⟨by simp, hb.drew⟩

theorem nth_all (x y z : Nat) (w : World) (hx : x < 18446744073709551616) (hy : y < 18446744073709551616) (hz : z < 18446744073709551616) (hT : Tab w) :
    Calls Ybad.prog 3 #[.int .u64 x, .int .u64 y, .int .u64 z] w fun e w' => e = .returned (.bool true) ∧ Below w.heap.size w w' := by
  by_cases h0 : x % 16777216 = 0
  · exact nth_h0 x y z w hx hy h0
  · by_cases m0 : y % 1152921504606846976 = 0
    · exact nth_m0 x y z w hx hy h0 m0
    · exact nth_law x y z w hx hy hz h0 m0 hT

end Go.Proofs.YbulkavueDoor
