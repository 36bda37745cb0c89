/-
  The walk of LawS2355BBuild.
-/
import Derived.Test.YbulkavtcRest
import Derived.Test.YbulkavtcCount
namespace Go.Proofs.Ybulkavtc
open Go.RowKit
attribute [local go_sem ↓] Go.wp_at_zero Go.wp_at_succ

set_option maxRecDepth 100000 in
set_option maxHeartbeats 1000000 in
theorem law_build (a : Option Addr) (len cap : Nat) (w : World) (hl : len ≤ 1024) (hx : RowU8 w a len) :
    Calls Yba.prog 3 #[.slice a len cap] w fun e w' => e = .returned (.bool true) ∧ Below w.heap.size w w' := by
  have z := zero23
  have HX : Hid (RowU8 w a len) := hx
  clear hx
  go_enter Yba.func3, Yba.ntmps3
  go_wp2_with fail
  refine (build_any a len cap w hl HX.out).mono ?_
  rintro x w1 ⟨p, pr, rfl, h, ha, hf, hb, hz⟩
  clear z
  go_wp2_with fail
  refine (spans_any (w.heap.size + 1) h p (keys pr) w1 ha (by have := keys_length pr; omega)).mono ?_
  rintro x w2 ⟨v, rfl, ho, hb2⟩
  have hf2 : Hid (Flags w2 w.heap.size pr) := hf.below hz hb2
  have ha2 := ha.below hb2
  have hbw : Below w.heap.size w w2 := ((below_box w (.cells flags0 23)).trans hb).trans (hb2.mono (Nat.le_of_lt hz))
  have hz2 : w.heap.size < w2.heap.size := Nat.lt_of_lt_of_le hz hb2.size
  have hN := keys_length pr
  rcases got_form ho with ⟨rfl, hn0, hno⟩ | ⟨g, gc, rfl, hg1, hg2, hgc, hcell⟩
  · clear ho hf hb hb2 ha
    go_wp2_with fail
    go_loopw [6, 7] (fun k i wr => ∃ n : Nat, n ≤ 85 ∧ i = .int .i64 n ∧ k = .int .i64 0 ∧ wr = w2) (fun _ i _ => 85 - (intOf i).toNat)
    case atStart => exact ⟨0, by omega, rfl, rfl, rfl⟩
    case round =>
      obtain ⟨n, hn, rfl, rfl, rfl⟩ := hrel
      by_cases hlt : n < 85
      · have hfn : wr.cell? ⟨w.heap.size, n, none⟩ = some (.bool false) := by rw [(hf2.out n hlt).1, hno n hlt]
        go_wp2_with fail
        go_roundw
        case rel => exact ⟨n + 1, by omega, by go_num, rfl, trivial⟩
        case measure => simp [intOf]; omega
      · obtain rfl : n = 85 := by omega
        have hch := check_any (w.heap.size + 1) h p (keys pr) wr ha2 (by omega)
        rw [hn0] at hch
        have HCH : Hid (Calls Yba.prog 8 #[.pointer p, .int .i64 0] wr fun x w' => x = .returned (.tuple #[.int .i64 h, .int .i64 (0 : Nat), .bool true]) ∧ w' = wr) := hch
        clear hch
        go_wp2_with fail
        refine HCH.out.mono ?_
        rintro x w4 ⟨rfl, rfl⟩
        go_wp2_with fail
        go_ret
        exact ⟨rfl, hbw⟩
  · have HC : Hid (∀ n, n < 85 → pr n = true → w2.cell? ⟨g, cnt pr n * 2, none⟩ = some (.string (sB n)) ∧ w2.cell? ⟨g, cnt pr n * 2 + 1, none⟩ = some (.string (eB n))) := hcell
    clear hcell ho hf hb hb2 ha
    obtain ⟨N, hNe⟩ : ∃ N, (keys pr).length = N := ⟨_, rfl⟩
    rw [hNe] at hN hgc ⊢
    have HN : Hid ((keys pr).length = N) := hNe
    clear hNe
    go_wp2_with fail
    go_loopw [6, 7] (fun k i wr => ∃ n : Nat, n ≤ 85 ∧ i = .int .i64 n ∧ k = .int .i64 (cnt pr n) ∧ Below w2.heap.size w2 wr) (fun _ i _ => 85 - (intOf i).toNat)
    case atStart => exact ⟨0, by omega, rfl, rfl, Below.refl _ _⟩
    case round =>
      obtain ⟨n, hn, rfl, rfl, hbr⟩ := hrel
      by_cases hlt : n < 85
      · have hfn : wr.cell? ⟨w.heap.size, n, none⟩ = some (.bool (pr n)) := (hbr.cell (p := ⟨w.heap.size, n, none⟩) hz2).trans (hf2.out n hlt).1
        by_cases hp : pr n = true
        · obtain ⟨c1, c2⟩ := HC.out n hlt hp
          have c1' := (hbr.cell (p := ⟨g, cnt pr n * 2, none⟩) hg2).trans c1
          have c2' := (hbr.cell (p := ⟨g, cnt pr n * 2 + 1, none⟩) hg2).trans c2
          have hk : cnt pr n < N := by have := cnt_lt pr n hlt hp; rw [HN.out] at this; exact this
          rw [hp] at hfn
          have HK : Hid (cnt pr (n + 1) = cnt pr n + 1) := cnt_yes pr n hp
          clear c1 c2 hp
          obtain ⟨c, hc⟩ : ∃ c, cnt pr n = c := ⟨_, rfl⟩
          rw [hc] at HK hk c1' c2' ⊢
          clear hc
          have k1 : (0 : Int) ≤ (c : Int) := by omega
          have k2 : (c : Int) < (N : Int) := by omega
          have hd : decide (N ≤ c) = false := by simp; omega
          have hgr : g < wr.heap.size := Nat.lt_of_lt_of_le hg2 hbr.size
          go_wp2_with fail
          go_region_held3 (fun w' => w'.cell? ⟨g, c * 2, none⟩ = some (.string (sB n)) ∧ w'.cell? ⟨g, c * 2 + 1, none⟩ = some (.string (eB n))) (first | go_keep)
            (first | (go_at_call 7; refine (span_any n _ hlt).mono ?_; rintro x w3 ⟨rfl, hb3⟩; have hc3 : ∀ b o, b < wr.heap.size → w3.cell? ⟨b, o, none⟩ = wr.cell? ⟨b, o, none⟩ := (bcell hb3).1))
          clear hc3 c1' c2' hfn hd
          go_wp2_with fail
          go_roundw
          case rel => exact ⟨n + 1, by omega, by go_num, by rw [HK.out]; go_num, hbr.drew.trans (hb3.mono hbr.size)⟩
          case measure => simp [intOf]; omega
        · have hp' : pr n = false := by simpa using hp
          clear hp
          rw [hp'] at hfn
          have HK : Hid (cnt pr (n + 1) = cnt pr n) := cnt_no pr n hp'
          obtain ⟨c, hc⟩ : ∃ c, cnt pr n = c := ⟨_, rfl⟩
          rw [hc] at HK ⊢
          clear hc
          go_wp2_with fail
          go_roundw
          case rel => exact ⟨n + 1, by omega, by go_num, by rw [HK.out], hbr⟩
          case measure => simp [intOf]; omega
      · obtain rfl : n = 85 := by omega
        have ec : cnt pr 85 = N := (cnt_all pr).trans HN.out
        rw [ec]
        have har := ha2.below hbr
        have hch := check_any (w.heap.size + 1) h p (keys pr) wr har (by rw [HN.out]; omega)
        rw [HN.out] at hch
        have HCH : Hid (Calls Yba.prog 8 #[.pointer p, .int .i64 0] wr fun x w' => x = .returned (.tuple #[.int .i64 h, .int .i64 N, .bool true]) ∧ w' = wr) := hch
        clear hch ec
        go_wp2_with fail
        refine HCH.out.mono ?_
        rintro x w4 ⟨rfl, rfl⟩
        go_wp2_with fail
        go_ret
        exact ⟨rfl, hbw.trans (hbr.mono (Nat.le_of_lt hz2))⟩

end Go.Proofs.Ybulkavtc
