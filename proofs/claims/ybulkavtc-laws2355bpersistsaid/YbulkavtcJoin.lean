/-
  join over balanced trees that part by two at most.
-/
import Derived.Test.YbulkavtcJoinL
namespace Go.Proofs.Ybulkavtc
open Go.RowKit
attribute [local go_sem ↓] Go.wp_at_zero Go.wp_at_succ

theorem joinRight_any (i B hl hr : Nat) (l r : Option Addr) (lks rks : List Nat) (w : World) (tl : AV w B hl l lks) (tr : AV w B hr r rks)
    (hB : B ≤ w.heap.size) (hh : hl = hr + 2) (n1 : lks.length ≤ 90) (n2 : rks.length ≤ 90) :
    Calls Yba.prog 15 #[.pointer l, .agg #[.string (sB i), .string (eB i)], .pointer r] w fun x w' => ∃ p h, x = .returned (.pointer p) ∧
      AV w' B h p (lks ++ i :: rks) ∧ (h = max hl hr ∨ h = 1 + max hl hr) ∧ Below w.heap.size w w' := by
  have z1 := tl.size
  have z2 := tr.size
  rcases tl.inv with ⟨e0, -, -⟩ | ⟨b, j, ll, lr, hll, hlr, llks, lrks, rfl, hb, ib, tll, tlr, rfl, eh, c1, c2⟩
  · omega
  have z3 := tll.size
  have z4 := tlr.size
  have tr0 := tr.top
  simp only [List.length_append, List.length_cons] at n1 z1
  by_cases c : max hlr hr ≤ hll
  · refine (joinRight_a b (sB i) (eB i) (sB j) (eB j) ll lr r _ _ hll llks.length hlr lrks.length hr rks.length w ib tll.top tlr.top tr0 (by omega) (by omega) c).mono ?_
    rintro x w' ⟨d, d', rfl, g1, g2, hn1, hn2, hbel⟩
    have a1 := AV.mk hn1 (Nat.le_trans hB g1) (tlr.below hbel) (tr.below hbel) rfl (by simp; omega) (by omega) (by omega)
    have a2 := AV.mk hn2 (Nat.le_trans hB g2) (tll.below hbel) a1 rfl (by simp; omega) (by omega) (by omega)
    have e : llks ++ j :: lrks ++ i :: rks = llks ++ j :: (lrks ++ i :: rks) := by simp
    rw [e]
    exact ⟨_, _, rfl, a2, by omega, hbel⟩
  · rcases tlr.inv with ⟨e0, -, -⟩ | ⟨k, m, cl, cr, hcl, hcr, clks, crks, rfl, hk, ik, tcl, tcr, rfl, ek, c3, c4⟩
    · omega
    have z5 := tcl.size
    have z6 := tcr.size
    simp only [List.length_append, List.length_cons] at n1 z1 z4
    refine (joinRight_b b k (sB i) (eB i) (sB j) (eB j) (sB m) (eB m) ll r cl cr _ _ hll llks.length hlr _ hr rks.length hcl clks.length hcr crks.length w ib ik tll.top tr0 tcl.top tcr.top (by simp; omega) (by omega) (by omega) (by omega)).mono ?_
    rintro x w' ⟨d2, d5, d6, rfl, g1, g2, g3, hn1, hn2, hn3, hbel⟩
    have a1 := AV.mk hn1 (Nat.le_trans hB g1) (tcr.below hbel) (tr.below hbel) rfl (by simp; omega) (by omega) (by omega)
    have a2 := AV.mk hn2 (Nat.le_trans hB g2) (tll.below hbel) (tcl.below hbel) rfl (by simp; omega) (by omega) (by omega)
    have a3 := AV.mk hn3 (Nat.le_trans hB g3) a2 a1 rfl (by simp; omega) (by omega) (by omega)
    have e : llks ++ j :: (clks ++ m :: crks) ++ i :: rks = llks ++ j :: clks ++ m :: (crks ++ i :: rks) := by simp
    rw [e]
    exact ⟨_, _, rfl, a3, by omega, hbel⟩

theorem joinLeft_any (i B hl hr : Nat) (l r : Option Addr) (lks rks : List Nat) (w : World) (tl : AV w B hl l lks) (tr : AV w B hr r rks)
    (hB : B ≤ w.heap.size) (hh : hr = hl + 2) (n1 : lks.length ≤ 90) (n2 : rks.length ≤ 90) :
    Calls Yba.prog 16 #[.pointer l, .agg #[.string (sB i), .string (eB i)], .pointer r] w fun x w' => ∃ p h, x = .returned (.pointer p) ∧
      AV w' B h p (lks ++ i :: rks) ∧ (h = max hl hr ∨ h = 1 + max hl hr) ∧ Below w.heap.size w w' := by
  have z1 := tl.size
  have z2 := tr.size
  rcases tr.inv with ⟨e0, -, -⟩ | ⟨b, j, rl, rr, hrl, hrr, rlks, rrks, rfl, hb, ib, trl, trr, rfl, eh, c1, c2⟩
  · omega
  have z3 := trl.size
  have z4 := trr.size
  have tl0 := tl.top
  simp only [List.length_append, List.length_cons] at n2 z2
  by_cases c : max hl hrl ≤ hrr
  · refine (joinLeft_a b (sB i) (eB i) (sB j) (eB j) l rl rr _ _ hl lks.length hrl rlks.length hrr rrks.length w ib trr.top trl.top tl0 (by omega) (by omega) c).mono ?_
    rintro x w' ⟨d, d', rfl, g1, g2, hn1, hn2, hbel⟩
    have a1 := AV.mk hn1 (Nat.le_trans hB g1) (tl.below hbel) (trl.below hbel) rfl (by simp; omega) (by omega) (by omega)
    have a2 := AV.mk hn2 (Nat.le_trans hB g2) a1 (trr.below hbel) rfl (by simp; omega) (by omega) (by omega)
    have e : lks ++ i :: (rlks ++ j :: rrks) = lks ++ i :: rlks ++ j :: rrks := by simp
    rw [e]
    exact ⟨_, _, rfl, a2, by omega, hbel⟩
  · rcases trl.inv with ⟨e0, -, -⟩ | ⟨k, m, cl, cr, hcl, hcr, clks, crks, rfl, hk, ik, tcl, tcr, rfl, ek, c3, c4⟩
    · omega
    have z5 := tcl.size
    have z6 := tcr.size
    simp only [List.length_append, List.length_cons] at n2 z2 z3
    refine (joinLeft_b b k (sB i) (eB i) (sB j) (eB j) (sB m) (eB m) l rr cl cr _ _ hl lks.length hrl _ hrr rrks.length hcl clks.length hcr crks.length w ib ik trr.top tl0 tcl.top tcr.top (by simp; omega) (by omega) (by omega) (by omega)).mono ?_
    rintro x w' ⟨d2, d5, d6, rfl, g1, g2, g3, hn1, hn2, hn3, hbel⟩
    have a1 := AV.mk hn1 (Nat.le_trans hB g1) (tl.below hbel) (tcl.below hbel) rfl (by simp; omega) (by omega) (by omega)
    have a2 := AV.mk hn2 (Nat.le_trans hB g2) (tcr.below hbel) (trr.below hbel) rfl (by simp; omega) (by omega) (by omega)
    have a3 := AV.mk hn3 (Nat.le_trans hB g3) a1 a2 rfl (by simp; omega) (by omega) (by omega)
    have e : lks ++ i :: (clks ++ m :: crks ++ j :: rrks) = lks ++ i :: clks ++ m :: (crks ++ j :: rrks) := by simp
    rw [e]
    exact ⟨_, _, rfl, a3, by omega, hbel⟩

set_option maxRecDepth 100000 in
set_option maxHeartbeats 1000000 in
theorem join_any (i B hl hr : Nat) (l r : Option Addr) (lks rks : List Nat) (w : World) (tl : AV w B hl l lks) (tr : AV w B hr r rks)
    (hB : B ≤ w.heap.size) (h1 : hl ≤ hr + 2) (h2 : hr ≤ hl + 2) (n1 : lks.length ≤ 90) (n2 : rks.length ≤ 90) :
    Calls Yba.prog 13 #[.pointer l, .agg #[.string (sB i), .string (eB i)], .pointer r] w fun x w' => ∃ p h, x = .returned (.pointer p) ∧
      AV w' B h p (lks ++ i :: rks) ∧ (h = max hl hr ∨ h = 1 + max hl hr) ∧ (hl ≤ hr + 1 → hr ≤ hl + 1 → h = 1 + max hl hr) ∧ Below w.heap.size w w' := by
  have z1 := tl.size
  have z2 := tr.size
  have bw := below_box w (.cells #[.string (sB i), .string (eB i)] 31)
  have al := tl.below bw
  have ar := tr.below bw
  have ul := al.top
  have ur := ar.top
  have e1 : IntKind.i64.wrap ((hl : Int) + 1) = (hl : Int) + 1 := wrap_add hl 1 (by omega)
  have e2 : IntKind.i64.wrap ((hr : Int) + 1) = (hr : Int) + 1 := wrap_add hr 1 (by omega)
  by_cases c : (hr : Int) + 1 < (hl : Int)
  · go_enter Yba.func13, Yba.ntmps13
    go_wp2_with (first | (go_at_call_of 14 (Value.pointer l); refine (h_any l hl _ _ ul).mono ?_; rintro x w' ⟨rfl, rfl⟩) | (go_at_call_of 14 (Value.pointer r); refine (h_any r hr _ _ ur).mono ?_; rintro x w' ⟨rfl, rfl⟩))
    refine (joinRight_any i B hl hr l r lks rks _ al ar (by simp; omega) (by omega) n1 n2).mono ?_
    rintro x w' ⟨p, h, rfl, ha, hh, hbel⟩
    go_wp2_with fail
    go_ret
    exact ⟨p, h, rfl, ha, hh, by omega, bw.trans (hbel.mono (by simp))⟩
  · by_cases c' : (hl : Int) + 1 < (hr : Int)
    · go_enter Yba.func13, Yba.ntmps13
      go_wp2_with (first | (go_at_call_of 14 (Value.pointer l); refine (h_any l hl _ _ ul).mono ?_; rintro x w' ⟨rfl, rfl⟩) | (go_at_call_of 14 (Value.pointer r); refine (h_any r hr _ _ ur).mono ?_; rintro x w' ⟨rfl, rfl⟩))
      refine (joinLeft_any i B hl hr l r lks rks _ al ar (by simp; omega) (by omega) n1 n2).mono ?_
      rintro x w' ⟨p, h, rfl, ha, hh, hbel⟩
      go_wp2_with fail
      go_ret
      exact ⟨p, h, rfl, ha, hh, by omega, bw.trans (hbel.mono (by simp))⟩
    · go_enter Yba.func13, Yba.ntmps13
      go_wp2_with (first | (go_at_call_of 14 (Value.pointer l); refine (h_any l hl _ _ ul).mono ?_; rintro x w' ⟨rfl, rfl⟩) | (go_at_call_of 14 (Value.pointer r); refine (h_any r hr _ _ ur).mono ?_; rintro x w' ⟨rfl, rfl⟩))
      refine (node_any l r (sB i) (eB i) hl lks.length hr rks.length _ ul ur (by omega) (by omega) (by omega) (by omega)).mono ?_
      rintro x w' ⟨d, rfl, g1, g2, hn, hbel⟩
      go_wp2_with fail
      go_ret
      have g1' : w.heap.size ≤ d := Nat.le_trans (by simp) g1
      exact ⟨_, _, rfl, AV.mk hn (by omega) (al.below hbel) (ar.below hbel) rfl (by simp; omega) (by omega) (by omega), by omega, by omega, bw.trans (hbel.mono (by simp))⟩

end Go.Proofs.Ybulkavtc
