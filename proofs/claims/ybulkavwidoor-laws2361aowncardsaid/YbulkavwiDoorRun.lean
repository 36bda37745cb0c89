/-
  firstRun, the closure of childrenOf, slices.IndexFunc with it.
-/
import Derived.Test.YbulkavwiDoorDepth
import Derived.LaidEqlPtr
import Derived.Lib.Builder
namespace Go.Proofs.YbulkavwiDoor
open Go.RowKit
set_option linter.unusedSimpArgs false
set_option linter.unusedVariables false
attribute [local go_sem ↓] Go.wp_at_zero Go.wp_at_succ

theorem Ybad.info38 : (Ybad.prog.info? 38).map (fun i => i.size) = some 36 := by kernel_rfl
theorem Ybad.info46 : (Ybad.prog.info? 46).map (fun i => i.size != 0) = some true := by kernel_rfl
theorem info38 : ∃ i, Ybad.prog.info? 38 = some i ∧ i.size ≠ 0 := by
  have h := Ybad.info38
  cases hi : Ybad.prog.info? 38 with
  | none => rw [hi] at h; cases h
  | some i =>
    rw [hi] at h
    have : i.size = 36 := Option.some.inj h
    exact ⟨i, rfl, by omega⟩
theorem info46 : ∃ i, Ybad.prog.info? 46 = some i ∧ i.size ≠ 0 := by
  have h := Ybad.info46
  cases hi : Ybad.prog.info? 46 with
  | none => rw [hi] at h; cases h
  | some i =>
    rw [hi] at h
    have : (i.size != 0) = true := Option.some.inj h
    exact ⟨i, rfl, by simpa using this⟩

/-- A block of cells, none of them shut. -/
def Whole (w : World) (b : Nat) : Prop := ∃ ca ta, w.heap[b]? = some (.cells ca ta (0, 0))
theorem Whole.grown {w w' : World} {b : Nat} (h : Whole w b) (hb : Below w.heap.size w w') : Whole w' b := by
  obtain ⟨ca, ta, hc⟩ := h
  exact ⟨ca, ta, (hb.block b (Array.getElem?_eq_some_iff.1 hc).1).trans hc⟩

theorem eql_same (w : World) (b : Nat) : (binOp .eql 23 (.pointer (some ⟨b, 0, none⟩)) (.pointer (some ⟨b, 0, none⟩))).run Ybad.prog w = .ok (.bool true) w := by
  obtain ⟨i, hi, -⟩ := info38
  exact run_eql_ptr_same w _ Ybad.underlying23 hi
theorem eql_other (w : World) (b b' : Nat) (hne : b ≠ b') (h : Whole w b) (h' : Whole w b') : (binOp .eql 23 (.pointer (some ⟨b, 0, none⟩)) (.pointer (some ⟨b', 0, none⟩))).run Ybad.prog w = .ok (.bool false) w := by
  obtain ⟨i, hi, hz⟩ := info38
  obtain ⟨ca, ta, hc⟩ := h
  obtain ⟨cb, tb, hd⟩ := h'
  exact run_eql_ptr_other w Ybad.underlying23 hi hz (fun hh => hne (Addr.mk.inj hh).1) hc hd
theorem neq_same (w : World) (b : Nat) : (binOp .neq 39 (.pointer (some ⟨b, 0, none⟩)) (.pointer (some ⟨b, 0, none⟩))).run Ybad.prog w = .ok (.bool false) w := by
  obtain ⟨i, hi, -⟩ := info46
  exact Lib.run_neq_ptr_same w _ Ybad.underlying39 hi

/-- The instances kid 0 .. kid (n - 1) stand in the row at g from o on; each one's node. -/
def Kids (W : World) (g o n : Nat) (kid sch : Nat → Nat) : Prop :=
  ∀ k, k < n → W.cell? ⟨g, o + k, none⟩ = some (.pointer (some ⟨kid k, 0, none⟩)) ∧ W.cell? ⟨kid k, 0, none⟩ = some (.pointer (some ⟨sch k, 0, none⟩))

theorem Kids.below {W W' : World} {g o n N : Nat} {kid sch : Nat → Nat} (h : Kids W g o n kid sch) (hg : g < N) (hk : ∀ k, k < n → kid k < N) (hb : Below N W W') : Kids W' g o n kid sch := fun k hk' =>
  ⟨(hb.cell (p := ⟨g, o + k, none⟩) hg).trans (h k hk').1, (hb.cell (p := ⟨kid k, 0, none⟩) (hk k hk')).trans (h k hk').2⟩

theorem Kids.lts {W : World} {g o n : Nat} {kid sch : Nat → Nat} (h : Kids W g o n kid sch) (k : Nat) (hk : k < n) : g < W.heap.size ∧ kid k < W.heap.size := ⟨cell_lt (h k hk).1, cell_lt (h k hk).2⟩

theorem Kids.grown {W W' : World} {g o n : Nat} {kid sch : Nat → Nat} (h : Kids W g o n kid sch) (hb : Below W.heap.size W W') : Kids W' g o n kid sch := fun k hk => by
  obtain ⟨l1, l2⟩ := h.lts k hk
  exact ⟨(hb.cell (p := ⟨g, o + k, none⟩) l1).trans (h k hk).1, (hb.cell (p := ⟨kid k, 0, none⟩) l2).trans (h k hk).2⟩

set_option maxRecDepth 100000 in
set_option maxHeartbeats 1000000 in
theorem firstRun_any (g o n c e : Nat) (kid sch : Nat → Nat) (w : World) (hn : n ≤ 2048) (hc : n ≤ c) (h1 : 1 ≤ e) (he : e ≤ n) (hK : Kids w g o n kid sch) (hs : ∀ k, k < e → sch k = sch 0) (hx : e < n → sch e ≠ sch 0 ∧ Whole w (sch e) ∧ Whole w (sch 0)) :
    Calls Ybad.prog 26 #[.slice (some ⟨g, o, none⟩) n c] w fun r w' => r = .returned (.slice (some ⟨g, o, none⟩) e e) ∧ Below w.heap.size w w' := by
  have HK : Hid (Kids w g o n kid sch) := hK
  have HS : Hid (∀ k, k < e → sch k = sch 0) := hs
  have HX : Hid (e < n → sch e ≠ sch 0 ∧ Whole w (sch e) ∧ Whole w (sch 0)) := hx
  clear hK hs hx
  go_enter Ybad.func26, Ybad.ntmps26
  go_wp2_with fail
  go_loopw [3] (fun i wr => ∃ k : Nat, 1 ≤ k ∧ k ≤ e ∧ i = .int .i64 k ∧ Below w.heap.size w wr) (fun i _ => e - (intOf i).toNat)
  case atStart => exact ⟨1, by omega, h1, rfl, Below.refl _ _⟩
  case round =>
    obtain ⟨k, hk1, hk, rfl, hb⟩ := hrel
    by_cases hlt : k < n
    · obtain ⟨a0, a1⟩ := HK.out.grown hb k hlt
      obtain ⟨b0, b1⟩ := HK.out.grown hb 0 (by omega)
      have g1 : decide ((k : Int) < (n : Int)) = true := by simp; omega
      have k1 : (0 : Int) ≤ (k : Int) := by omega
      have k2 : (k : Int) < (n : Int) := by omega
      have k3 : (0 : Int) < (n : Int) := by omega
      have k4 : 0 < n := by omega
      simp only [Nat.add_zero] at b0
      by_cases hke : k < e
      · rw [HS.out k hke] at a1
        generalize kid k = x at *
        generalize kid 0 = y at *
        generalize sch 0 = z at *
        have q := fun W : World => eql_same W z
        go_wp2_with fail
        go_region_held3 (fun w' => w'.cell? ⟨g, o + k, none⟩ = some (.pointer (some ⟨x, 0, none⟩)) ∧ w'.cell? ⟨x, 0, none⟩ = some (.pointer (some ⟨z, 0, none⟩)) ∧ w'.cell? ⟨g, o, none⟩ = some (.pointer (some ⟨y, 0, none⟩)) ∧ w'.cell? ⟨y, 0, none⟩ = some (.pointer (some ⟨z, 0, none⟩))) (first | go_keep) (fail)
        go_wp2_with fail
        go_roundw
        case rel => exact ⟨k + 1, by omega, by omega, by go_num, hb.drew⟩
        case measure => simp [intOf]; omega
      · obtain rfl : k = e := by omega
        obtain ⟨hne, ⟨ca, ta, hca⟩, ⟨cb, tb, hcb⟩⟩ := HX.out hlt
        have hca2 := (hb.block _ (Array.getElem?_eq_some_iff.1 hca).1).trans hca
        have hcb2 := (hb.block _ (Array.getElem?_eq_some_iff.1 hcb).1).trans hcb
        have q := fun (W : World) (h : W.heap[sch k]? = some (.cells ca ta (0, 0))) (h' : W.heap[sch 0]? = some (.cells cb tb (0, 0))) => eql_other W (sch k) (sch 0) hne ⟨ca, ta, h⟩ ⟨cb, tb, h'⟩
        clear hca hcb hne
        generalize kid k = x at *
        generalize kid 0 = y at *
        generalize sch 0 = z at *
        generalize sch k = z' at *
        go_wp2_with fail
        go_region_held3 (fun w' => w'.cell? ⟨g, o + k, none⟩ = some (.pointer (some ⟨x, 0, none⟩)) ∧ w'.cell? ⟨x, 0, none⟩ = some (.pointer (some ⟨z', 0, none⟩)) ∧ w'.cell? ⟨g, o, none⟩ = some (.pointer (some ⟨y, 0, none⟩)) ∧ w'.cell? ⟨y, 0, none⟩ = some (.pointer (some ⟨z, 0, none⟩)) ∧ w'.heap[z']? = some (.cells ca ta (0, 0)) ∧ w'.heap[z]? = some (.cells cb tb (0, 0))) (first | exact ⟨a0, a1, b0, b1, hca2, hcb2⟩) (fail)
        go_wp2_with fail
        go_ret
        exact ⟨rfl, hb.drew⟩
    · obtain rfl : k = e := by omega
      have g1 : decide (k < n) = false := by simp; omega
      go_wp2_with fail
      go_quiet (fail)
      go_wp2_with fail
      go_ret
      exact ⟨rfl, ⟨hb.os, hb.tape, hb.output, hb.size, hb.block⟩⟩

set_option maxHeartbeats 400000 in
/-- 'func(c *instance) bool { return c.schema == n }'. -/
theorem isOf_yes (b nb x : Nat) (w : World) (h0 : w.cell? ⟨x, 0, none⟩ = some (.pointer (some ⟨nb, 0, none⟩))) (h1 : w.cell? ⟨b, 0, none⟩ = some (.pointer (some ⟨nb, 0, none⟩))) :
    Calls Ybad.prog 25 #[.pointer (some ⟨x, 0, none⟩), .pointer (some ⟨b, 0, none⟩)] w fun e w' => e = .returned (.bool true) ∧ Below w.heap.size w w' := by
  have q := fun W : World => eql_same W nb
  go_enter Ybad.func25, Ybad.ntmps25
  go_wp2_with fail
  go_region_held3 (fun w' => w'.cell? ⟨x, 0, none⟩ = some (.pointer (some ⟨nb, 0, none⟩)) ∧ w'.cell? ⟨b, 0, none⟩ = some (.pointer (some ⟨nb, 0, none⟩))) (first | go_keep) (fail)
  go_wp2_with fail
  go_ret
  exact ⟨rfl, (Below.refl _ _).drew⟩

set_option maxHeartbeats 400000 in
theorem isOf_no (b nb mb x : Nat) (w : World) (h0 : w.cell? ⟨x, 0, none⟩ = some (.pointer (some ⟨mb, 0, none⟩))) (h1 : w.cell? ⟨b, 0, none⟩ = some (.pointer (some ⟨nb, 0, none⟩))) (hne : mb ≠ nb) (hm : Whole w mb) (hn : Whole w nb) :
    Calls Ybad.prog 25 #[.pointer (some ⟨x, 0, none⟩), .pointer (some ⟨b, 0, none⟩)] w fun e w' => e = .returned (.bool false) ∧ Below w.heap.size w w' := by
  obtain ⟨ca, ta, hca⟩ := hm
  obtain ⟨cb, tb, hcb⟩ := hn
  have q := fun (W : World) (h : W.heap[mb]? = some (.cells ca ta (0, 0))) (h' : W.heap[nb]? = some (.cells cb tb (0, 0))) => eql_other W mb nb hne ⟨ca, ta, h⟩ ⟨cb, tb, h'⟩
  clear hne
  go_enter Ybad.func25, Ybad.ntmps25
  go_wp2_with fail
  go_region_held3 (fun w' => w'.cell? ⟨x, 0, none⟩ = some (.pointer (some ⟨mb, 0, none⟩)) ∧ w'.cell? ⟨b, 0, none⟩ = some (.pointer (some ⟨nb, 0, none⟩)) ∧ w'.heap[mb]? = some (.cells ca ta (0, 0)) ∧ w'.heap[nb]? = some (.cells cb tb (0, 0))) (first | exact ⟨h0, h1, hca, hcb⟩) (fail)
  go_wp2_with fail
  go_ret
  exact ⟨rfl, (Below.refl _ _).drew⟩

set_option maxRecDepth 100000 in
set_option maxHeartbeats 1000000 in
/-- slices.IndexFunc: the first of the node's own (the place a), or -1 where a is their number. -/
theorem index_any (ca : Option Addr) (n c a b nb mb : Nat) (kid sch : Nat → Nat) (w : World) (hn : n ≤ 2048) (ha : a ≤ n) (hK : ∀ g, ca = some ⟨g, 0, none⟩ → Kids w g 0 n kid sch) (hc : 0 < n → ∃ g, ca = some ⟨g, 0, none⟩)
    (h1 : w.cell? ⟨b, 0, none⟩ = some (.pointer (some ⟨nb, 0, none⟩))) (hne : mb ≠ nb) (hm : Whole w mb) (hw : Whole w nb) (hs : ∀ k, k < a → sch k = mb) (hx : a < n → sch a = nb) :
    Calls Ybad.prog 24 #[.slice ca n c, .func (.func 25) #[] #[.pointer (some ⟨b, 0, none⟩)]] w fun e w' => e = .returned (.int .i64 (if a < n then (a : Int) else -1)) ∧ Below w.heap.size w w' := by
  have lb := cell_lt h1
  have HK : Hid (∀ g, ca = some ⟨g, 0, none⟩ → Kids w g 0 n kid sch) := hK
  have HC : Hid (0 < n → ∃ g, ca = some ⟨g, 0, none⟩) := hc
  have HS : Hid (∀ k, k < a → sch k = mb) := hs
  have HX : Hid (a < n → sch a = nb) := hx
  clear hK hc hs hx
  go_enter Ybad.func24, Ybad.ntmps24
  go_wp2_with fail
  go_loopw [8, 5] (fun i _ wr => ∃ k : Nat, k ≤ a ∧ i = .int .i64 k ∧ Below w.heap.size w wr) (fun i _ _ => a - (intOf i).toNat)
  case atStart => exact ⟨0, by omega, rfl, Below.refl _ _⟩
  case round =>
    obtain ⟨k, hk, rfl, hb⟩ := hrel
    by_cases hlt : k < n
    · obtain ⟨g, hg⟩ := HC.out (by omega)
      subst hg
      obtain ⟨a0, a1⟩ := (HK.out g rfl).grown hb k hlt
      have c1 := (hb.cell (p := ⟨b, 0, none⟩) lb).trans h1
      have k1 : (0 : Int) ≤ (k : Int) := by omega
      have k2 : (k : Int) < (n : Int) := by omega
      simp only [Nat.zero_add] at a0
      by_cases hka : k < a
      · rw [HS.out k hka] at a1
        generalize kid k = x at *
        go_wp2_with (go_at_call 25; refine (isOf_no b nb mb x _ (by exact a1) (by exact c1) hne (hm.grown hb) (hw.grown hb)).mono ?_; rintro e w1 ⟨rfl, hb1⟩)
        go_roundw
        case rel => exact ⟨k + 1, by omega, by go_num, hb.trans (hb1.mono hb.size)⟩
        case measure => simp [intOf]; omega
      · obtain rfl : k = a := by omega
        rw [HX.out hlt] at a1
        generalize kid k = x at *
        go_wp2_with (go_at_call 25; refine (isOf_yes b nb x _ (by exact a1) (by exact c1)).mono ?_; rintro e w1 ⟨rfl, hb1⟩)
        go_ret
        exact ⟨by simp [hlt], hb.trans (hb1.mono hb.size)⟩
    · have g1 : decide ((k : Int) < (n : Int)) = false := by simp; omega
      have g2 : ¬ a < n := by omega
      go_wp2_with fail
      go_ret
      exact ⟨by simp [g2], hb⟩

end Go.Proofs.YbulkavwiDoor
