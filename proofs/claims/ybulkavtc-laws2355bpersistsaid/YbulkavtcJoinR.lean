/-
  The walk of joinRight where l is the taller by two.
-/
import Derived.Test.YbulkavtcAvl
namespace Go.Proofs.Ybulkavtc
open Go.RowKit
attribute [local go_sem ↓] Go.wp_at_zero Go.wp_at_succ

theorem below_box (w : World) (o : Obj) : Below w.heap.size w (w.alloc o) := (Below.refl _ _).alloc (Nat.le_refl _) o

set_option maxRecDepth 100000 in
set_option maxHeartbeats 1000000 in
theorem joinRight_a (b : Nat) (s e s' e' : ByteArray) (ll lr r : Option Addr) (h n hll nll hlr nlr hr nr : Nat) (w : World)
    (ib : IsNode w b s' e' ll lr h n) (t1 : Top w ll hll nll) (t2 : Top w lr hlr nlr) (t3 : Top w r hr nr)
    (bd : hll ≤ 200 ∧ hlr ≤ 200 ∧ hr ≤ 200 ∧ nll ≤ 200 ∧ nlr ≤ 200 ∧ nr ≤ 200) (c1 : hlr ≤ hr + 1) (c2 : max hlr hr ≤ hll) :
    Calls Yba.prog 15 #[.pointer (some ⟨b, 0, none⟩), .agg #[.string s, .string e], .pointer r] w fun x w' => ∃ d d', x = .returned (.pointer (some ⟨d', 0, none⟩)) ∧ w.heap.size ≤ d ∧ w.heap.size ≤ d' ∧
      IsNode w' d s e lr r (1 + max hlr hr) (nlr + 1 + nr) ∧ IsNode w' d' s' e' ll (some ⟨d, 0, none⟩) (1 + max hll (1 + max hlr hr)) (nll + 1 + (nlr + 1 + nr)) ∧ Below w.heap.size w w' := by
  have lb := cell_lt ib.1
  obtain ⟨b0, b1, b2, b3, -, -⟩ := ib
  obtain ⟨d1, d2, d3, d4, d5, d6⟩ := bd
  have i1 : (hlr : Int) ≤ (hr : Int) + 1 := by omega
  have i2 : ((1 + max hlr hr : Nat) : Int) ≤ (hll : Int) + 1 := by omega
  have e1 : IntKind.i64.wrap ((hr : Int) + 1) = (hr : Int) + 1 := wrap_add hr 1 (by omega)
  have e2 : IntKind.i64.wrap ((hll : Int) + 1) = (hll : Int) + 1 := wrap_add hll 1 (by omega)
  have bw := below_box w (.cells #[.string s, .string e] 31)
  have u1 := t1.below bw.drew
  have u2 := t2.below bw.drew
  have u3 := t3.below bw.drew
  have v2 := t2.below bw
  have v3 := t3.below bw
  go_enter Yba.func15, Yba.ntmps15
  go_wp2_with (first | (go_at_call_of 14 (Value.pointer lr); refine (h_any lr hlr nlr _ v2).mono ?_; rintro x w' ⟨rfl, rfl⟩) | (go_at_call_of 14 (Value.pointer r); refine (h_any r hr nr _ v3).mono ?_; rintro x w' ⟨rfl, rfl⟩))
  go_region_held3 (fun w' => w'.cell? ⟨b, 3, none⟩ = some (.pointer lr) ∧ w'.cell? ⟨w.heap.size, 0, none⟩ = some (.string s) ∧ w'.cell? ⟨w.heap.size, 1, none⟩ = some (.string e)) (first | go_keep | exact ⟨by rw [hc1 _ _ lb]; assumption, hs1, hs2⟩)
    (first | (go_at_call_of 12 (Value.pointer lr); refine (node_any lr r s e hlr nlr hr nr _ u2 u3 (by omega) (by omega) (by omega) (by omega)).mono ?_; rintro x w1 ⟨d, rfl, hd1, hd2, hn1, hb1⟩; have hz1 : w.heap.size < w1.heap.size := Nat.lt_of_lt_of_le (by simp) hb1.size; have hc1 : ∀ b o, b < w.heap.size → w1.cell? ⟨b, o, none⟩ = w.cell? ⟨b, o, none⟩ := (bcell (bw.drew.trans (hb1.mono (by simp)))).1; have hs1 : w1.cell? ⟨w.heap.size, 0, none⟩ = some (.string s) := ((bcell hb1).1 _ _ (by simp)).trans (by simp [go_sem]); have hs2 : w1.cell? ⟨w.heap.size, 1, none⟩ = some (.string e) := ((bcell hb1).1 _ _ (by simp)).trans (by simp [go_sem])))
  go_wp2_with fail
  have bw1 : Below w1.heap.size w1 w1.drew := (Below.refl _ _).drew
  have td := hn1.top.below bw1
  have tll := (u1.below hb1).below bw1
  have b3' := (hc1 b 3 lb).trans b3
  have b2' := (hc1 b 2 lb).trans b2
  have b1' := (hc1 b 1 lb).trans b1
  have b0' := (hc1 b 0 lb).trans b0
  have lb1 : b < w1.heap.size := by omega
  clear hc1 b0 b1 b2 b3 hs1 hs2
  go_region_held3 (fun w' => w'.cell? ⟨b, 2, none⟩ = some (.pointer ll)) (first | go_keep)
    (first | (go_at_call_of 14 (Value.pointer ll); refine (h_any ll hll nll _ tll).mono ?_; rintro x w' ⟨rfl, rfl⟩)
           | (go_at_call_of 14 (Value.pointer (some ⟨d, 0, none⟩)); refine (h_any (some ⟨d, 0, none⟩) (1 + max hlr hr) (nlr + 1 + nr) _ td).mono ?_; rintro x w' ⟨rfl, rfl⟩))
  go_wp2_with fail
  have bw2 : Below w1.heap.size w1 w1.drew.drew := (Below.refl _ _).drew.drew
  have td2 := hn1.top.below bw2
  have tll2 := (u1.below hb1).below bw2
  go_region_held3 (fun w' => w'.cell? ⟨b, 0, none⟩ = some (.string s') ∧ w'.cell? ⟨b, 1, none⟩ = some (.string e') ∧ w'.cell? ⟨b, 2, none⟩ = some (.pointer ll)) (first | go_keep)
    (first | (go_at_call_of 12 (Value.pointer ll); refine (node_any ll (some ⟨d, 0, none⟩) s' e' hll nll (1 + max hlr hr) (nlr + 1 + nr) _ tll2 td2 (by omega) (by omega) (by omega) (by omega)).mono ?_; rintro x w2 ⟨d', rfl, hd3, hd4, hn2, hb2⟩; have hc2 : ∀ b o, b < w1.heap.size → w2.cell? ⟨b, o, none⟩ = w1.cell? ⟨b, o, none⟩ := (bcell hb2).1))
  go_wp2_with fail
  go_ret
  have hz : w.heap.size ≤ w1.heap.size := by omega
  refine ⟨d, d', rfl, Nat.le_trans (by simp) hd1, Nat.le_trans hz hd3, (hn1.below bw2).below hb2, hn2, ?_⟩
  exact ((bw.drew.trans (hb1.mono (by simp))).trans (bw2.mono hz)).trans (hb2.mono hz)

set_option maxRecDepth 100000 in
set_option maxHeartbeats 1000000 in
theorem joinRight_b (b c : Nat) (s e s' e' s'' e'' : ByteArray) (ll r cl cr : Option Addr) (h n hll nll hlr nlr hr nr hcl ncl hcr ncr : Nat) (w : World)
    (ib : IsNode w b s' e' ll (some ⟨c, 0, none⟩) h n) (ic : IsNode w c s'' e'' cl cr hlr nlr) (t1 : Top w ll hll nll) (t3 : Top w r hr nr) (t4 : Top w cl hcl ncl) (t5 : Top w cr hcr ncr)
    (bd : hll ≤ 90 ∧ hlr ≤ 90 ∧ hr ≤ 90 ∧ nll ≤ 90 ∧ nlr ≤ 90 ∧ nr ≤ 90) (bd2 : hcl ≤ 90 ∧ hcr ≤ 90 ∧ ncl ≤ 90 ∧ ncr ≤ 90) (c1 : hlr ≤ hr + 1) (c2 : hll < max hlr hr) :
    Calls Yba.prog 15 #[.pointer (some ⟨b, 0, none⟩), .agg #[.string s, .string e], .pointer r] w fun x w' => ∃ d2 d5 d6, x = .returned (.pointer (some ⟨d6, 0, none⟩)) ∧ w.heap.size ≤ d2 ∧ w.heap.size ≤ d5 ∧ w.heap.size ≤ d6 ∧
      IsNode w' d2 s e cr r (1 + max hcr hr) (ncr + 1 + nr) ∧ IsNode w' d5 s' e' ll cl (1 + max hll hcl) (nll + 1 + ncl) ∧
      IsNode w' d6 s'' e'' (some ⟨d5, 0, none⟩) (some ⟨d2, 0, none⟩) (1 + max (1 + max hll hcl) (1 + max hcr hr)) (nll + 1 + ncl + 1 + (ncr + 1 + nr)) ∧ Below w.heap.size w w' := by
  have t2 : Top w (some ⟨c, 0, none⟩) hlr nlr := ic.top
  obtain ⟨g1, g2, g3, g4⟩ := bd2
  have lb := cell_lt ib.1
  obtain ⟨b0, b1, b2, b3, -, -⟩ := ib
  obtain ⟨d1, d2, d3, d4, d5, d6⟩ := bd
  have i1 : (hlr : Int) ≤ (hr : Int) + 1 := by omega
  have i2 : ((1 + max hlr hr : Nat) : Int) > (hll : Int) + 1 := by omega
  have e1 : IntKind.i64.wrap ((hr : Int) + 1) = (hr : Int) + 1 := wrap_add hr 1 (by omega)
  have e2 : IntKind.i64.wrap ((hll : Int) + 1) = (hll : Int) + 1 := wrap_add hll 1 (by omega)
  have bw := below_box w (.cells #[.string s, .string e] 31)
  have u1 := t1.below bw.drew
  have u2 := t2.below bw.drew
  have u3 := t3.below bw.drew
  have v2 := t2.below bw
  have v3 := t3.below bw
  go_enter Yba.func15, Yba.ntmps15
  go_wp2_with (first | (go_at_call_of 14 (Value.pointer (some ⟨c, 0, none⟩)); refine (h_any (some ⟨c, 0, none⟩) hlr nlr _ v2).mono ?_; rintro x w' ⟨rfl, rfl⟩) | (go_at_call_of 14 (Value.pointer r); refine (h_any r hr nr _ v3).mono ?_; rintro x w' ⟨rfl, rfl⟩))
  go_region_held3 (fun w' => w'.cell? ⟨b, 3, none⟩ = some (.pointer (some ⟨c, 0, none⟩)) ∧ w'.cell? ⟨w.heap.size, 0, none⟩ = some (.string s) ∧ w'.cell? ⟨w.heap.size, 1, none⟩ = some (.string e)) (first | go_keep | exact ⟨by rw [hc1 _ _ lb]; assumption, hs1, hs2⟩)
    (first | (go_at_call_of 12 (Value.pointer (some ⟨c, 0, none⟩)); refine (node_any (some ⟨c, 0, none⟩) r s e hlr nlr hr nr _ u2 u3 (by omega) (by omega) (by omega) (by omega)).mono ?_; rintro x w1 ⟨d, rfl, hd1, hd2, hn1, hb1⟩; have hz1 : w.heap.size < w1.heap.size := Nat.lt_of_lt_of_le (by simp) hb1.size; have hc1 : ∀ b o, b < w.heap.size → w1.cell? ⟨b, o, none⟩ = w.cell? ⟨b, o, none⟩ := (bcell (bw.drew.trans (hb1.mono (by simp)))).1; have hs1 : w1.cell? ⟨w.heap.size, 0, none⟩ = some (.string s) := ((bcell hb1).1 _ _ (by simp)).trans (by simp [go_sem]); have hs2 : w1.cell? ⟨w.heap.size, 1, none⟩ = some (.string e) := ((bcell hb1).1 _ _ (by simp)).trans (by simp [go_sem])))
  go_wp2_with fail
  have bw1 : Below w1.heap.size w1 w1.drew := (Below.refl _ _).drew
  have td := hn1.top.below bw1
  have tll := (u1.below hb1).below bw1
  have b3' := (hc1 b 3 lb).trans b3
  have b2' := (hc1 b 2 lb).trans b2
  have b1' := (hc1 b 1 lb).trans b1
  have b0' := (hc1 b 0 lb).trans b0
  have lb1 : b < w1.heap.size := by omega
  clear hc1 b0 b1 b2 b3 hs1 hs2
  go_region_held3 (fun w' => w'.cell? ⟨b, 2, none⟩ = some (.pointer ll)) (first | go_keep)
    (first | (go_at_call_of 14 (Value.pointer ll); refine (h_any ll hll nll _ tll).mono ?_; rintro x w' ⟨rfl, rfl⟩)
           | (go_at_call_of 14 (Value.pointer (some ⟨d, 0, none⟩)); refine (h_any (some ⟨d, 0, none⟩) (1 + max hlr hr) (nlr + 1 + nr) _ td).mono ?_; rintro x w' ⟨rfl, rfl⟩))
  go_wp2_with fail
  have bw2 : Below w1.heap.size w1 w1.drew.drew := (Below.refl _ _).drew.drew
  have hnd := hn1.below bw2
  have hnc := ((ic.below bw.drew).below hb1).below bw2
  have tll2 := (u1.below hb1).below bw2
  have tr2 := (u3.below hb1).below bw2
  have tcl2 := ((t4.below bw.drew).below hb1).below bw2
  have tcr2 := ((t5.below bw.drew).below hb1).below bw2
  go_region_held3 (fun w' => w'.cell? ⟨b, 0, none⟩ = some (.string s') ∧ w'.cell? ⟨b, 1, none⟩ = some (.string e') ∧ w'.cell? ⟨b, 2, none⟩ = some (.pointer ll)) (first | go_keep)
    (first | (go_at_call 18; refine (rotateRight_any d c s e s'' e'' r cl cr _ _ _ _ hr nr hcl ncl hcr ncr _ hnd hnc tr2 tcl2 tcr2 (by omega)).mono ?_; rintro x w2 ⟨d2, d3, rfl, hd3, hd4, hn2, hn3, hb2⟩; have hc2 : ∀ b o, b < w1.heap.size → w2.cell? ⟨b, o, none⟩ = w1.cell? ⟨b, o, none⟩ := (bcell hb2).1; have hz2 : w1.heap.size ≤ w2.heap.size := hb2.size)
           | (go_at_call 12; refine (node_any ll (some ⟨d3, 0, none⟩) s' e' hll nll _ _ _ (tll2.below hb2) hn3.top (by omega) (by omega) (by omega) (by omega)).mono ?_; rintro x w3 ⟨d4, rfl, hd5, hd6, hn4, hb3⟩; have hc3 : ∀ b o, b < w1.heap.size → w3.cell? ⟨b, o, none⟩ = w1.cell? ⟨b, o, none⟩ := (fun b o h => ((bcell hb3).1 b o (by omega)).trans (hc2 b o h)); have hz3 : w2.heap.size ≤ w3.heap.size := hb3.size)
           | (go_at_call 17; refine (rotateLeft_any d4 d3 s' e' s'' e'' ll cl (some ⟨d2, 0, none⟩) _ _ _ _ hll nll hcl ncl (1 + max hcr hr) (ncr + 1 + nr) _ hn4 (hn3.below hb3) ((tll2.below hb2).below hb3) ((tcl2.below hb2).below hb3) (hn2.below hb3).top (by omega)).mono ?_; rintro x w4 ⟨d5, d6, rfl, hd7, hd8, hn5, hn6, hb4⟩; have hc4 : ∀ b o, b < w1.heap.size → w4.cell? ⟨b, o, none⟩ = w1.cell? ⟨b, o, none⟩ := (fun b o h => ((bcell hb4).1 b o (by omega)).trans (hc3 b o h))))
  go_wp2_with fail
  go_ret
  have hz : w.heap.size ≤ w1.heap.size := by omega
  have hd3' : w1.heap.size ≤ d2 := hd3
  refine ⟨d2, d5, d6, rfl, by omega, by omega, by omega, (hn2.below hb3).below hb4, hn5, hn6, ?_⟩
  exact ((((bw.drew.trans (hb1.mono (by simp))).trans (bw2.mono hz)).trans (hb2.mono hz)).trans (hb3.mono (by omega))).trans (hb4.mono (by omega))

end Go.Proofs.Ybulkavtc
