/-
  The walk of LawS2355BPersist.
-/
import Derived.Test.YbulkavtcRest
import Derived.Test.YbulkavtcCount
namespace Go.Proofs.Ybulkavtc
open Go.RowKit
attribute [local go_sem ↓] Go.wp_at_zero Go.wp_at_succ

/-- The slice of a set's spans: its shape, and, where there is an element, its cells. -/
theorem got_any {w : World} {B : Nat} {v : Value} {ks : List Nat} (ho : w.ownsRow B 31 2 v (0 + ks.length) ([] ++ cellsOf ks)) :
    ∃ a cap, v = .slice a ks.length cap ∧ ks.length ≤ cap ∧ ∀ n, n < ks.length → ∃ g, a = some ⟨g, 0, none⟩ ∧ g < w.heap.size ∧
      ∀ k, ks[n]? = some k → w.cell? ⟨g, n * 2, none⟩ = some (.string (sB k)) ∧ w.cell? ⟨g, n * 2 + 1, none⟩ = some (.string (eB k)) := by
  have ho' := ho
  simp only [Nat.zero_add, List.nil_append] at ho'
  rcases ho'.2 with ⟨rfl, h0⟩ | ⟨g, cap, cur, rfl, hB, hg, hcap, -⟩
  · exact ⟨none, 0, by rw [h0], by omega, fun n hn => by omega⟩
  · refine ⟨_, cap, rfl, hcap, fun n hn => ⟨g, rfl, (Array.getElem?_eq_some_iff.1 hg).1, fun k hk => ?_⟩⟩
    have hc := ho'.cells (g := g) rfl
    have hadd : ∀ j, (⟨g, 0, none⟩ : Addr).add j = ⟨g, j, none⟩ := fun j => by unfold Addr.add; split <;> simp_all
    obtain ⟨c1, c2⟩ := cellsOf_at ks n k hk
    have d1 := hc _ _ c1
    have d2 := hc _ _ c2
    rw [hadd] at d1 d2
    exact ⟨d1, d2⟩

/-- What the walk behind the insertion is told of the world w5 in which both lists of spans lie. -/
structure After (w w5 : World) (p p2 : Option Addr) (pr : Nat → Bool) (j h h2 : Nat) : Prop where
  flags : Flags w5 w.heap.size pr
  old : AV w5 (w.heap.size + 1) h p (keys pr)
  new : AV w5 (w.heap.size + 1) h2 p2 (keys (with1 pr j))
  bel : Below w.heap.size w w5
  lt : w.heap.size < w5.heap.size

set_option maxRecDepth 100000 in
set_option maxHeartbeats 2000000 in
theorem law_persist (a : Option Addr) (len cap y : Nat) (w : World) (hl : len ≤ 1024) (hx : RowU8 w a len) (hy : y < 256) :
    Calls Yba.prog 4 #[.slice a len cap, .int .u8 y] w fun e w' => e = .returned (.bool true) ∧ Below w.heap.size w w' := by
  have z := zero23
  have HX : Hid (RowU8 w a len) := hx
  clear hx
  obtain ⟨j, hj⟩ : ∃ j, y % 85 = j := ⟨_, rfl⟩
  have hj85 : j < 85 := by omega
  have hJ : (y : Int) % 85 = (j : Int) := by omega
  clear hj
  go_enter Yba.func4, Yba.ntmps4
  go_wp2_with fail
  refine (build_any a len cap w hl HX.out).mono ?_
  rintro x w1 ⟨p, pr, rfl, h, ha, hf, hb, hz⟩
  clear z
  have HF : Hid (Flags w1 w.heap.size pr) := hf
  have HA : Hid (AV w1 (w.heap.size + 1) h p (keys pr)) := ha
  have HB : Hid (Below w.heap.size w w1) := (below_box w (.cells flags0 23)).trans hb
  obtain ⟨hfj, -⟩ := hf j hj85
  clear hf ha hb
  by_cases hp : pr j = true
  · rw [hp] at hfj
    go_wp2_with fail
    go_ret
    exact ⟨rfl, HB.out⟩
  · have hp' : pr j = false := by simpa using hp
    clear hp
    rw [hp'] at hfj
    go_wp2_with fail
    refine (spans_any (w.heap.size + 1) h p (keys pr) w1 HA.out (by have := keys_length pr; omega)).mono ?_
    rintro x w2 ⟨v1, rfl, ho1, hb2⟩
    go_wp2_with fail
    refine (span_any j _ hj85).mono ?_
    rintro x w3 ⟨rfl, hb3⟩
    go_wp2_with fail
    refine (insert_any j (w.heap.size + 1) h p (keys pr) w3 hj85 ((HA.out.below hb2).below hb3) (by have := hb2.size; have := hb3.size; omega) (keys_sorted pr) (keys_lt pr) (keys_not pr j hp') (by have := keys_length pr; omega)).mono ?_
    rintro x w4 ⟨p2, h2, rfl, ha4, -, hb4⟩
    go_wp2_with fail
    have hA4 := ((HA.out.below hb2).below hb3).below hb4
    refine (spans_any (w.heap.size + 1) h p (keys pr) w4 hA4 (by have := keys_length pr; omega)).mono ?_
    rintro x w5 ⟨v2, rfl, ho2, hb5⟩
    have H5 : After w w5 p p2 pr j h h2 := by
      have z2 := hb2.size
      have z3 := hb3.size
      have z4 := hb4.size
      have z5 := hb5.size
      refine ⟨(((HF.out.below hz hb2).below (by omega) hb3).below (by omega) hb4).below (by omega) hb5, hA4.below hb5, by rw [keys_with pr j hj85 hp']; exact ha4.below hb5, ?_, by omega⟩
      exact (((HB.out.trans (hb2.mono (by omega))).trans (hb3.mono (by omega))).trans (hb4.mono (by omega))).trans (hb5.mono (by omega))
    have hb25 : Below w2.heap.size w2 w5 := (hb3.trans (hb4.mono hb3.size)).trans (hb5.mono (Nat.le_trans hb3.size hb4.size))
    obtain ⟨a1, c1, hv1, hc1, hg1⟩ := got_any ho1
    obtain ⟨a2, c2, hv2, hc2, hg2⟩ := got_any ho2
    have G : Hid (∀ n, n < (keys pr).length → ∃ g1 g2 k, a1 = some ⟨g1, 0, none⟩ ∧ a2 = some ⟨g2, 0, none⟩ ∧ g1 < w5.heap.size ∧ g2 < w5.heap.size ∧
        w5.cell? ⟨g1, n * 2, none⟩ = some (.string (sB k)) ∧ w5.cell? ⟨g1, n * 2 + 1, none⟩ = some (.string (eB k)) ∧ w5.cell? ⟨g2, n * 2, none⟩ = some (.string (sB k)) ∧ w5.cell? ⟨g2, n * 2 + 1, none⟩ = some (.string (eB k))) := by
      intro n hn
      obtain ⟨g1, e1, l1, m1⟩ := hg1 n hn
      obtain ⟨g2, e2, l2, m2⟩ := hg2 n hn
      obtain ⟨k, hk⟩ : ∃ k, (keys pr)[n]? = some k := ⟨_, List.getElem?_eq_getElem hn⟩
      obtain ⟨d1, d2⟩ := m1 k hk
      obtain ⟨d3, d4⟩ := m2 k hk
      exact ⟨g1, g2, k, e1, e2, Nat.lt_of_lt_of_le l1 hb25.size, l2, (hb25.cell (p := ⟨g1, n * 2, none⟩) l1).trans d1, (hb25.cell (p := ⟨g1, n * 2 + 1, none⟩) l1).trans d2, d3, d4⟩
    rw [hv1, hv2]
    clear hg1 hg2 ho1 ho2 hv1 hv2 hA4 ha4 hb2 hb3 hb4 hb5 hb25 hfj hz HF HA HB
    have hN := keys_length pr
    obtain ⟨N, hNe⟩ : ∃ N, (keys pr).length = N := ⟨_, rfl⟩
    rw [hNe] at hN hc1 hc2 G ⊢
    have HN : Hid ((keys pr).length = N) := hNe
    clear hNe
    go_wp2_with fail
    go_loopw [11] (fun i wr => ∃ n : Nat, n ≤ N ∧ i = .int .i64 n ∧ Below w5.heap.size w5 wr) (fun i _ => N - (intOf i).toNat)
    case atStart => exact ⟨0, by omega, rfl, Below.refl _ _⟩
    case round =>
      obtain ⟨n, hn, rfl, hbr⟩ := hrel
      by_cases hlt : n < N
      · obtain ⟨g1, g2, k, e1, e2, l1, l2, d1, d2, d3, d4⟩ := G.out n hlt
        clear G
        subst e1
        subst e2
        have d1' := (hbr.cell (p := ⟨g1, n * 2, none⟩) l1).trans d1
        have d2' := (hbr.cell (p := ⟨g1, n * 2 + 1, none⟩) l1).trans d2
        have d3' := (hbr.cell (p := ⟨g2, n * 2, none⟩) l2).trans d3
        have d4' := (hbr.cell (p := ⟨g2, n * 2 + 1, none⟩) l2).trans d4
        clear d1 d2 d3 d4 H5
        have k1 : (0 : Int) ≤ (n : Int) := by omega
        have k2 : (n : Int) < (N : Int) := by omega
        go_wp2_with fail
        go_region_held3 (fun w' => w'.cell? ⟨g1, n * 2, none⟩ = some (.string (sB k)) ∧ w'.cell? ⟨g1, n * 2 + 1, none⟩ = some (.string (eB k)) ∧ w'.cell? ⟨g2, n * 2, none⟩ = some (.string (sB k)) ∧ w'.cell? ⟨g2, n * 2 + 1, none⟩ = some (.string (eB k))) (first | go_keep) (fail)
        go_wp2_with fail
        go_roundw
        case rel => exact ⟨n + 1, by omega, by go_num, hbr.drew⟩
        case measure => simp [intOf]; omega
      · obtain rfl : n = N := by omega
        clear G hc1 hc2
        have hch := check_any (w.heap.size + 1) h p (keys pr) wr (H5.old.below hbr) (by rw [HN.out]; omega)
        rw [HN.out] at hch
        have HCH : Hid (Calls Yba.prog 8 #[.pointer p, .int .i64 0] wr fun x w' => x = .returned (.tuple #[.int .i64 h, .int .i64 n, .bool true]) ∧ w' = wr) := hch
        clear hch
        have hzr : w.heap.size < wr.heap.size := Nat.lt_of_lt_of_le H5.lt hbr.size
        obtain ⟨hfj, hfz⟩ := (H5.flags.below H5.lt hbr) j hj85
        go_wp2_with fail
        refine HCH.out.mono ?_
        rintro x w6 ⟨rfl, rfl⟩
        clear HCH
        go_wp2_with fail
        have haW : AV (w6.setCell ⟨w.heap.size, j, none⟩ (.bool true)) (w.heap.size + 1) h2 p2 (keys (with1 pr j)) := (H5.new.below hbr).other (Nat.lt_succ_self _) (fun b o hne => World.cell?_setCell_other _ _ _ _ (fun hh => hne (Addr.mk.inj hh).1.symm))
        have hfW : Flags (w6.setCell ⟨w.heap.size, j, none⟩ (.bool true)) w.heap.size (with1 pr j) := flags_set (H5.flags.below H5.lt hbr) hj85
        have hbW : Below w.heap.size w (w6.setCell ⟨w.heap.size, j, none⟩ (.bool true)) := (H5.bel.trans (hbr.mono (Nat.le_of_lt H5.lt))).setCell (Nat.le_refl _) _
        have hzW : w.heap.size < (w6.setCell ⟨w.heap.size, j, none⟩ (.bool true)).heap.size := by simpa [World.setCell] using hzr
        have hpj : with1 pr j j = true := by simp [with1]
        clear hfj hfz hbr hzr H5 HN hp' hJ hN
        generalize with1 pr j = pq at *
        refine (spans_any (w.heap.size + 1) h2 p2 (keys pq) _ haW (by have := keys_length pq; omega)).mono ?_
        rintro x w7 ⟨v3, rfl, ho3, hb7⟩
        have hf7 : Hid (Flags w7 w.heap.size pq) := hfW.below hzW hb7
        have ha7 := haW.below hb7
        have hbw : Below w.heap.size w w7 := hbW.trans (hb7.mono (Nat.le_of_lt hzW))
        have hz7 : w.heap.size < w7.heap.size := Nat.lt_of_lt_of_le hzW hb7.size
        have hM := keys_length pq
        clear haW hfW hbW hb7
        rcases got_form ho3 with ⟨rfl, hn0, hno⟩ | ⟨g, gc, rfl, hg1, hg2, hgc, hcell⟩
        · have := hno j hj85
          rw [hpj] at this
          cases this
        · have HC : Hid (∀ n, n < 85 → pq n = true → w7.cell? ⟨g, cnt pq n * 2, none⟩ = some (.string (sB n)) ∧ w7.cell? ⟨g, cnt pq n * 2 + 1, none⟩ = some (.string (eB n))) := hcell
          clear hcell ho3 hpj
          obtain ⟨M, hMe⟩ : ∃ M, (keys pq).length = M := ⟨_, rfl⟩
          rw [hMe] at hM hgc ⊢
          have HM : Hid ((keys pq).length = M) := hMe
          clear hMe
          go_wp2_with fail
          go_loopw [16, 17] (fun k i wr => ∃ n : Nat, n ≤ 85 ∧ i = .int .i64 n ∧ k = .int .i64 (cnt pq n) ∧ Below w7.heap.size w7 wr) (fun _ i _ => 85 - (intOf i).toNat)
          case atStart => exact ⟨0, by omega, rfl, rfl, Below.refl _ _⟩
          case round =>
            obtain ⟨m, hm, rfl, rfl, hbr⟩ := hrel
            by_cases hlt : m < 85
            · have hfn : wr.cell? ⟨w.heap.size, m, none⟩ = some (.bool (pq m)) := (hbr.cell (p := ⟨w.heap.size, m, none⟩) hz7).trans (hf7.out m hlt).1
              by_cases hp : pq m = true
              · obtain ⟨c1, c2⟩ := HC.out m hlt hp
                have c1' := (hbr.cell (p := ⟨g, cnt pq m * 2, none⟩) hg2).trans c1
                have c2' := (hbr.cell (p := ⟨g, cnt pq m * 2 + 1, none⟩) hg2).trans c2
                have hk : cnt pq m < M := by have := cnt_lt pq m hlt hp; rw [HM.out] at this; exact this
                rw [hp] at hfn
                have HK : Hid (cnt pq (m + 1) = cnt pq m + 1) := cnt_yes pq m hp
                clear c1 c2 hp
                obtain ⟨c, hc⟩ : ∃ c, cnt pq m = c := ⟨_, rfl⟩
                rw [hc] at HK hk c1' c2' ⊢
                clear hc
                have k1 : (0 : Int) ≤ (c : Int) := by omega
                have k2 : (c : Int) < (M : Int) := by omega
                have hd : decide (M ≤ c) = false := by simp; omega
                have hgr : g < wr.heap.size := Nat.lt_of_lt_of_le hg2 hbr.size
                go_wp2_with fail
                go_region_held3 (fun w' => w'.cell? ⟨g, c * 2, none⟩ = some (.string (sB m)) ∧ w'.cell? ⟨g, c * 2 + 1, none⟩ = some (.string (eB m))) (first | go_keep)
                  (first | (go_at_call 7; refine (span_any m _ hlt).mono ?_; rintro x w3 ⟨rfl, hb3⟩; have hc3 : ∀ b o, b < wr.heap.size → w3.cell? ⟨b, o, none⟩ = wr.cell? ⟨b, o, none⟩ := (bcell hb3).1))
                clear hc3 c1' c2' hfn hd
                go_wp2_with fail
                go_roundw
                case rel => exact ⟨m + 1, by omega, by go_num, by rw [HK.out]; go_num, hbr.drew.trans (hb3.mono hbr.size)⟩
                case measure => simp [intOf]; omega
              · have hp' : pq m = false := by simpa using hp
                clear hp
                rw [hp'] at hfn
                have HK : Hid (cnt pq (m + 1) = cnt pq m) := cnt_no pq m hp'
                obtain ⟨c, hc⟩ : ∃ c, cnt pq m = c := ⟨_, rfl⟩
                rw [hc] at HK ⊢
                clear hc
                go_wp2_with fail
                go_roundw
                case rel => exact ⟨m + 1, by omega, by go_num, by rw [HK.out], hbr⟩
                case measure => simp [intOf]; omega
            · obtain rfl : m = 85 := by omega
              have ec : cnt pq 85 = M := (cnt_all pq).trans HM.out
              rw [ec]
              have har := ha7.below hbr
              have hch := check_any (w.heap.size + 1) h2 p2 (keys pq) wr har (by rw [HM.out]; omega)
              rw [HM.out] at hch
              have HCH : Hid (Calls Yba.prog 8 #[.pointer p2, .int .i64 0] wr fun x w' => x = .returned (.tuple #[.int .i64 h2, .int .i64 M, .bool true]) ∧ w' = wr) := hch
              clear hch ec
              go_wp2_with fail
              refine HCH.out.mono ?_
              rintro x w9 ⟨rfl, rfl⟩
              go_wp2_with fail
              go_ret
              exact ⟨rfl, hbw.trans (hbr.mono (Nat.le_of_lt hz7))⟩

end Go.Proofs.Ybulkavtc
