/-
  The walks of zzs2357bbuild, timeOfDay, timesBefore.
-/
import Derived.Test.YbulkavueDoorBit
import Derived.Deep.QuietTactic
import Derived.BigQuiet
import Derived.Deep.RegionHeld3
import Derived.Deep.DrawnRows
namespace Go.Proofs.YbulkavueDoor
open Go.RowKit
attribute [local go_sem ↓] Go.wp_at_zero Go.wp_at_succ

set_option maxRecDepth 100000 in
set_option maxHeartbeats 1000000 in
theorem day_any (b H M k : Nat) (w : World) (c0 : w.cell? ⟨b, 0, none⟩ = some (.int .u64 M)) (c1 : w.cell? ⟨b, 1, none⟩ = some (.int .u64 H))
    (hH : H < 16777216) (hM : M < 1152921504606846976) (h0 : M ≠ 0) (hq : k / cntTo M 64 < cntTo H 64) (hk : k < 10000) (hT : Tab w) :
    Calls Ybad.prog 8 #[.pointer (some ⟨b, 0, none⟩), .int .i64 ((k : Int) + 1)] w fun e w' => ∃ hh mm : Nat, e = .returned (.int .i64 (hh * 3600 + mm * 60)) ∧
      (onesTo H 64)[k / cntTo M 64]? = some hh ∧ (onesTo M 64)[k % cntTo M 64]? = some mm ∧ w' = w.drew := by
  have hp : Hid (∀ w, Calls Ybad.prog 7 #[.int .u64 M] w fun e w' => e = .returned (.int .i64 (cntTo M 64)) ∧ w' = w) := fun w => pop_any M w (by omega)
  have hP0 : 0 < cntTo M 64 := cnt_pos M 64 (by omega) h0
  have hP1 : cntTo M 64 ≤ 64 := cnt_le M 64
  have hr : k % cntTo M 64 < cntTo M 64 := Nat.mod_lt _ hP0
  have N1 : Hid (∀ w, Tab w → Calls Ybad.prog 15 #[.int .u64 H, .int .i64 (((k / cntTo M 64 : Nat) : Int) + 1)] w fun e w' => ∃ t, e = .returned (.int .i64 (t : Nat)) ∧ (onesTo H 64)[k / cntTo M 64]? = some t ∧ w' = w) := fun w hT => nth_any H _ w (by omega) hq hT
  have N2 : Hid (∀ w, Tab w → Calls Ybad.prog 15 #[.int .u64 M, .int .i64 (((k % cntTo M 64 : Nat) : Int) + 1)] w fun e w' => ∃ t, e = .returned (.int .i64 (t : Nat)) ∧ (onesTo M 64)[k % cntTo M 64]? = some t ∧ w' = w) := fun w hT => nth_any M _ w (by omega) hr hT
  have HT : Hid (Tab w.drew) := hT
  clear hT hq hr
  generalize cntTo M 64 = P at *
  have hPz : ¬ P = 0 := by omega
  have e1 : (k : Int).tdiv (P : Int) = ((k / P : Nat) : Int) := by rw [Int.natCast_ediv, Int.tdiv_eq_ediv_of_nonneg (by omega)]
  have e2 : (k : Int).tmod (P : Int) = ((k % P : Nat) : Int) := by rw [Int.natCast_emod, Int.tmod_eq_emod_of_nonneg (by omega)]
  have lq : k / P ≤ k := Nat.div_le_self _ _
  have lr : k % P ≤ k := Nat.mod_le _ _
  generalize k / P = q at *
  generalize k % P = r at *
  have f0 : IntKind.i64.wrap (k : Int) = k := by rw [IntKind.wrap_i64]; omega
  have f1 : IntKind.i64.wrap (q : Int) = q := by rw [IntKind.wrap_i64]; omega
  have f2 : IntKind.i64.wrap ((q : Int) + 1) = q + 1 := by rw [IntKind.wrap_i64]; omega
  have f3 : IntKind.i64.wrap (r : Int) = r := by rw [IntKind.wrap_i64]; omega
  have f4 : IntKind.i64.wrap ((r : Int) + 1) = r + 1 := by rw [IntKind.wrap_i64]; omega
  go_enter Ybad.func8, Ybad.ntmps8
  go_wp2_with (first | (go_at_call 7; refine (hp.out _).mono ?_; rintro e w' ⟨rfl, rfl⟩))
  go_region_held3 (fun w' => w'.cell? ⟨b, 0, none⟩ = some (.int .u64 M) ∧ w'.cell? ⟨b, 1, none⟩ = some (.int .u64 H)) (go_keep)
    (first | (go_at_call_of 15 (Value.int IntKind.u64 ↑H); refine (N1.out _ HT.out).mono ?_; rintro e w1 ⟨hh, rfl, o1, rfl⟩)
           | (go_at_call_of 15 (Value.int IntKind.u64 ↑M); refine (N2.out _ HT.out).mono ?_; rintro e w1 ⟨mm, rfl, o2, rfl⟩))
  have l1 := (ones_get H 64 q hh o1).1
  have l2 := (ones_get M 64 r mm o2).1
  have O1 : Hid ((onesTo H 64)[q]? = some hh) := o1
  have O2 : Hid ((onesTo M 64)[r]? = some mm) := o2
  clear o1 o2
  go_wp2_with fail
  go_ret
  exact ⟨hh, mm, rfl, O1.out, O2.out, rfl⟩

theorem and_cut (x v : Nat) (hx : x < 18446744073709551616) (hv : v < 64) : bits .and .u64 (x : Int) (IntKind.u64.wrap (IntKind.u64.wrap (2 ^ v : Int) - 1)) = ((x % 2 ^ v : Nat) : Int) := by
  have hp : 2 ^ v < 2 ^ 64 := Nat.pow_lt_pow_right (by decide) hv
  have h0 : 0 < 2 ^ v := Nat.two_pow_pos v
  rw [wrap_pow v hv, wrap_u64_nat (2 ^ v - 1) (by omega) _ (by omega), bits_and_u64_nat x _ hx (by omega), Nat.and_two_pow_sub_one_eq_mod]

set_option maxRecDepth 100000 in
set_option maxHeartbeats 1000000 in
theorem before_core (b H M hh mm A B pa pm pb : Nat) (w : World) (c0 : w.cell? ⟨b, 0, none⟩ = some (.int .u64 M)) (c1 : w.cell? ⟨b, 1, none⟩ = some (.int .u64 H))
    (h24 : hh < 24) (m60 : mm < 60) (la : pa ≤ 64) (lm : pm ≤ 64) (lb : pb ≤ 64)
    (m1 : bits .and .u64 (H : Int) (IntKind.u64.wrap (IntKind.u64.wrap (2 ^ hh : Int) - 1)) = (A : Int)) (m2 : bits .and .u64 (M : Int) (IntKind.u64.wrap (IntKind.u64.wrap (2 ^ mm : Int) - 1)) = (B : Int))
    (ka : Hid (∀ w, Calls Ybad.prog 7 #[.int .u64 A] w fun e w' => e = .returned (.int .i64 pa) ∧ w' = w)) (km : Hid (∀ w, Calls Ybad.prog 7 #[.int .u64 M] w fun e w' => e = .returned (.int .i64 pm) ∧ w' = w))
    (kb : Hid (∀ w, Calls Ybad.prog 7 #[.int .u64 B] w fun e w' => e = .returned (.int .i64 pb) ∧ w' = w)) (kh : Hid (∀ w, Calls Ybad.prog 16 #[.int .u64 H, .int .i64 hh] w fun e w' => e = .returned (.bool true) ∧ w' = w)) :
    Calls Ybad.prog 9 #[.pointer (some ⟨b, 0, none⟩), .int .i64 (hh * 3600 + mm * 60)] w fun e w' => e = .returned (.int .i64 (pa * pm + pb)) ∧ w' = w.drew := by
  have e1 : ((hh : Int) * 3600 + (mm : Int) * 60) / 3600 = (hh : Int) := by omega
  have e2 : ((hh : Int) * 3600 + (mm : Int) * 60) % 3600 = (mm : Int) * 60 := by omega
  have e3 : ((mm : Int) * 60 + 59) / 60 = (mm : Int) := by omega
  have l1 : (pa : Int) * (pm : Int) ≤ 4096 := by
    have : pa * pm ≤ 64 * 64 := Nat.mul_le_mul la lm
    have h : ((pa * pm : Nat) : Int) ≤ 4096 := by omega
    rw [Int.natCast_mul] at h
    exact h
  have l0 : 0 ≤ (pa : Int) * (pm : Int) := Int.mul_nonneg (by omega) (by omega)
  go_enter Ybad.func9, Ybad.ntmps9
  go_wp2_with fail
  go_region_held3 (fun w' => w'.cell? ⟨b, 0, none⟩ = some (.int .u64 M) ∧ w'.cell? ⟨b, 1, none⟩ = some (.int .u64 H)) (go_keep) (fail)
  go_wp2_with fail
  refine (ka.out _).mono ?_
  rintro e w' ⟨rfl, rfl⟩
  go_wp2_with fail
  refine (km.out _).mono ?_
  rintro e w' ⟨rfl, rfl⟩
  go_wp2_with fail
  refine (kh.out _).mono ?_
  rintro e w' ⟨rfl, rfl⟩
  go_wp2_with fail
  refine (kb.out _).mono ?_
  rintro e w' ⟨rfl, rfl⟩
  go_wp2_with fail
  go_ret
  exact ⟨rfl, rfl⟩

theorem before_any (b H M hh mm : Nat) (w : World) (c0 : w.cell? ⟨b, 0, none⟩ = some (.int .u64 M)) (c1 : w.cell? ⟨b, 1, none⟩ = some (.int .u64 H))
    (hH : H < 16777216) (hM : M < 1152921504606846976) (h24 : hh < 24) (m60 : mm < 60) (hb : H.testBit hh = true) :
    Calls Ybad.prog 9 #[.pointer (some ⟨b, 0, none⟩), .int .i64 (hh * 3600 + mm * 60)] w fun e w' => e = .returned (.int .i64 (cntTo H hh * cntTo M 64 + cntTo M mm)) ∧ w' = w.drew := by
  have ea := cnt_cut H hh 64 (by omega)
  have eb := cnt_cut M mm 64 (by omega)
  have la : H % 2 ^ hh ≤ H := Nat.mod_le _ _
  have lb : M % 2 ^ mm ≤ M := Nat.mod_le _ _
  refine before_core b H M hh mm (H % 2 ^ hh) (M % 2 ^ mm) _ _ _ w c0 c1 h24 m60 ?_ (cnt_le M 64) ?_ (and_cut H hh (by omega) (by omega)) (and_cut M mm (by omega) (by omega)) ?_ (fun w => pop_any M w (by omega)) ?_ ?_
  · have := cnt_le H hh; omega
  · have := cnt_le M mm; omega
  · intro w
    have := pop_any (H % 2 ^ hh) w (by omega)
    rw [ea] at this
    exact this
  · intro w
    have := pop_any (M % 2 ^ mm) w (by omega)
    rw [eb] at this
    exact this
  · intro w
    have := has_any H hh w (by omega) (by omega)
    rw [hb] at this
    exact this

end Go.Proofs.YbulkavueDoor
