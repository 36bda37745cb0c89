/-
  The walk of the law.
-/
import Derived.Test.YbulkavwwDoorNode
import Derived.Deep.DeepCutAuto
namespace Go.Proofs.YbulkavwwDoor
open Go.RowKit
attribute [local go_sem ↓] Go.wp_at_zero Go.wp_at_succ

/-- The argument's rows of three. -/
def Arg3 (w : World) (a : Option Addr) (n : Nat) (A B : Nat → Int) (S : Nat → ByteArray) : Prop :=
  ∀ k, k < n → ∃ g o, a = some ⟨g, o, none⟩ ∧ g < w.heap.size ∧ w.cell? ⟨g, o + k * 3, none⟩ = some (.int .i64 (A k)) ∧ w.cell? ⟨g, o + k * 3 + 1, none⟩ = some (.int .i64 (B k)) ∧ w.cell? ⟨g, o + k * 3 + 2, none⟩ = some (.string (S k))

/-- The argument's rows of two. -/
def Arg2 (w : World) (a : Option Addr) (n : Nat) (A B : Nat → Int) : Prop :=
  ∀ k, k < n → ∃ g o, a = some ⟨g, o, none⟩ ∧ g < w.heap.size ∧ w.cell? ⟨g, o + k * 2, none⟩ = some (.int .i64 (A k)) ∧ w.cell? ⟨g, o + k * 2 + 1, none⟩ = some (.int .i64 (B k))

theorem round3 {w wr : World} {rs ex n k : Nat} {A B RA RB : Nat → Int} {S : Nat → ByteArray} {a b : Int} (h3 : Fill3 wr rs n k A B S) (hE : Fill wr ex n k RA RB) (hk : k < n) (eA : RA k = a) (eB : RB k = b) (hr : rs < wr.heap.size) (he : ex < wr.heap.size) (hne : rs ≠ ex)
    (r1 : w.heap.size < rs) (e1 : w.heap.size < ex) (hN : Cells wr w.heap.size 16 nodeF) (hb : Below w.heap.size w wr) (o : Obj) (wn : World)
    (hw : wn = (((((wr.setCell ⟨rs, k * 3, none⟩ (.int .i64 (A k))).setCell ⟨rs, k * 3 + 1, none⟩ (.int .i64 (B k))).setCell ⟨rs, k * 3 + 2, none⟩ (.string (S k))).setCell ⟨ex, k * 2, none⟩ (.int .i64 a)).setCell ⟨ex, k * 2 + 1, none⟩ (.int .i64 b)).alloc o) :
    Fill3 wn rs n (k + 1) A B S ∧ Fill wn ex n (k + 1) RA RB ∧ rs < wn.heap.size ∧ ex < wn.heap.size ∧ Cells wn w.heap.size 16 nodeF ∧ Below w.heap.size w wn := by
  have s3 := h3.step hk
  have sE := ((hE.other ⟨rs, k * 3, none⟩ hne (.int .i64 (A k))).other ⟨rs, k * 3 + 1, none⟩ hne (.int .i64 (B k))).other ⟨rs, k * 3 + 2, none⟩ hne (.string (S k))
  have sE2 := sE.step hk
  rw [eA, eB] at sE2
  have t3 := (s3.other ⟨ex, k * 2, none⟩ (Ne.symm hne) (.int .i64 a)).other ⟨ex, k * 2 + 1, none⟩ (Ne.symm hne) (.int .i64 b)
  have nr : rs ≠ w.heap.size := by omega
  have ne : ex ≠ w.heap.size := by omega
  have sN := ((((hN.other ⟨rs, k * 3, none⟩ nr (.int .i64 (A k))).other ⟨rs, k * 3 + 1, none⟩ nr (.int .i64 (B k))).other ⟨rs, k * 3 + 2, none⟩ nr (.string (S k))).other ⟨ex, k * 2, none⟩ ne (.int .i64 a)).other ⟨ex, k * 2 + 1, none⟩ ne (.int .i64 b)
  have lr : w.heap.size ≤ rs := by omega
  have le : w.heap.size ≤ ex := by omega
  have sB := ((((hb.setCell (p := ⟨rs, k * 3, none⟩) lr (.int .i64 (A k))).setCell (p := ⟨rs, k * 3 + 1, none⟩) lr (.int .i64 (B k))).setCell (p := ⟨rs, k * 3 + 2, none⟩) lr (.string (S k))).setCell (p := ⟨ex, k * 2, none⟩) le (.int .i64 a)).setCell (p := ⟨ex, k * 2 + 1, none⟩) le (.int .i64 b)
  have zr := hr
  have ze := he
  generalize hq : (((((wr.setCell ⟨rs, k * 3, none⟩ (.int .i64 (A k))).setCell ⟨rs, k * 3 + 1, none⟩ (.int .i64 (B k))).setCell ⟨rs, k * 3 + 2, none⟩ (.string (S k))).setCell ⟨ex, k * 2, none⟩ (.int .i64 a)).setCell ⟨ex, k * 2 + 1, none⟩ (.int .i64 b)) = wq at *
  have hs : wq.heap.size = wr.heap.size := by rw [← hq]; simp only [setCell_size]
  subst hw
  have zN : w.heap.size < wq.heap.size := by omega
  exact ⟨t3.alloc (by omega) o, sE2.alloc (by omega) o, by rw [World.size_alloc]; omega, by rw [World.size_alloc]; omega, sN.alloc zN o, sB.alloc (by omega) o⟩

theorem same_succ {k : Nat} {A B A' B' : Nat → Int} : Same (k + 1) A B A' B' ↔ (Same k A B A' B' ∧ A k = A' k ∧ B k = B' k) :=
  ⟨fun h => ⟨fun j hj => h j (by omega), h k (by omega)⟩, fun h j hj => by
    by_cases e : j = k
    · subst e; exact h.2
    · exact h.1 j (by omega)⟩

set_option maxRecDepth 100000 in
set_option maxHeartbeats 4000000 in
theorem law_in (ra sa : Option Addr) (rn rc sn sc : Nat) (A B C D : Nat → Int) (S : Nat → ByteArray) (und same pend pre : Bool) (id : ByteArray) (w : World) (hr : rn ≤ 1024) (hs : sn ≤ 1024) (h3 : Arg3 w ra rn A B S) (h2 : Arg2 w sa sn C D) (hu : Unr w) :
    Calls Ybad.prog 3 #[.slice ra rn rc, .bool und, .string id, .slice sa sn sc, .bool same, .bool pend, .bool pre] w fun e w' => e = .returned (.bool true) ∧ Below w.heap.size w w' := by
  have t1 : decide ((1024 : Int) < rn) = false := by simp; omega
  have t2 : decide ((1024 : Int) < sn) = false := by simp; omega
  have H3 : Hid (Arg3 w ra rn A B S) := h3
  have H2 : Hid (Arg2 w sa sn C D) := h2
  have HU : Hid (Unr w) := hu
  clear h3 h2 hu
  go_enter Ybad.func3, Ybad.ntmps3
  go_upto_if 38 with fail
  have hC : Cells (w.alloc (.cells nodeZero 49)) w.heap.size 16 nodeF := node_new w 49
  have hB0 : Below w.heap.size w (w.alloc (.cells nodeZero 49)) := (Below.refl _ _).alloc (Nat.le_refl _) _
  have hZ : (w.alloc (.cells nodeZero 49)).heap.size = w.heap.size + 1 := World.size_alloc _ _
  generalize w.alloc (.cells nodeZero 49) = w0 at *
  have HC : Hid (Cells w0 w.heap.size 16 nodeF) := hC
  have HB : Hid (Below w.heap.size w w0) := hB0
  have HZ : Hid (w0.heap.size = w.heap.size + 1) := hZ
  clear hC hB0 hZ
  go_cut [16, 17, 18, 19] (fun s16 _ _ _ wx => ∃ m ea ec RA RB, s16 = .slice ea m ec ∧ m ≤ 1024 ∧ Mid wx w.heap.size none id m RA RB ea ec ∧ Below w.heap.size w wx)
  case first => as_aux_lemma =>
    cases und
    · obtain ⟨i0, hi, hz0, hz1, hz2⟩ := info_parts Ybad.info56
      obtain ⟨i1, ji, jz0, jz1, jz2⟩ := info_parts Ybad.info54
      go_wp2_with (first | (at_make; refine wpList_make_full _ rfl _ _ 41 rfl w0.heap.size 56 i0 (.agg #[.int .i64 0, .int .i64 0, .string ⟨#[]⟩]) 3 Ybad.underlying41 hi hz0 hz1 .i64 .i64 _ _ rn rfl rfl (by omega) (by omega) (by rw [hz2]; omega) (by unfold maxLen; omega) (Nat.le_refl _) ?_; intro w1 ho1 hg1)
                         | (at_make; refine wpList_make_full _ rfl _ _ 50 rfl w1.heap.size 54 i1 (.agg #[.int .i64 0, .int .i64 0]) 2 Ybad.underlying50 ji jz0 jz1 .i64 .i64 _ _ rn rfl rfl (by omega) (by omega) (by rw [jz2]; omega) (by unfold maxLen; omega) (Nat.le_refl _) ?_; intro w2 ho2 hg2))
      obtain ⟨hN, f, hf⟩ := cells_of_owns ho1
      obtain ⟨hN2, f2, hf2⟩ := cells_of_owns ho2
      have b1 : Below w0.heap.size w0 w1 := (Below.refl _ _).grown hg1 (Nat.le_refl _) (fun k hk => by cases hk)
      have b2 : Below w1.heap.size w1 w2 := (Below.refl _ _).grown hg2 (Nat.le_refl _) (fun k hk => by cases hk)
      have F3 : Hid (Fill3 w2 w0.heap.size rn 0 A B S) := (Fill3.zero hf _ _ _).below hN b2
      have F2 : Hid (Fill w2 w1.heap.size rn 0 (stA id A S) (stB id B S)) := Fill.zero hf2 _ _
      have hZ := HZ.out
      have lr : w.heap.size < w0.heap.size := by omega
      have b12 : Below w0.heap.size w0 w2 := b1.trans (b2.mono b1.size)
      have C2 : Hid (Cells w2 w.heap.size 16 nodeF) := HC.out.below lr b12
      have BB : Hid (Below w.heap.size w w2) := HB.out.trans (b12.mono (by omega))
      have hrw : w0.heap.size < w2.heap.size := Nat.lt_of_lt_of_le hN b2.size
      have hsw : w0.heap.size < w1.heap.size := hN
      clear ho1 hg1 hf hi hz0 hz1 hz2 b1 b2 ho2 hg2 hf2 ji jz0 jz1 jz2 b12 HC HB HZ hZ hN
      generalize w0.heap.size = rs at *
      generalize w1.heap.size = ex at *
      go_loopw [47, 18, 19] (fun i _ _ wr => ∃ k : Nat, k ≤ rn ∧ i = .int .i64 k ∧ Fill3 wr rs rn k A B S ∧ Fill wr ex rn k (stA id A S) (stB id B S) ∧ rs < wr.heap.size ∧ ex < wr.heap.size ∧ Cells wr w.heap.size 16 nodeF ∧ Below w.heap.size w wr) (fun i _ _ _ => rn - (intOf i).toNat)
      case atStart => exact ⟨0, by omega, rfl, F3.out, F2.out, hrw, hN2, C2.out, BB.out⟩
      case round =>
        obtain ⟨k, hk, rfl, hF3, hF2, lr3, lr2, hC, hb⟩ := hrel
        have HF3 : Hid (Fill3 wr rs rn k A B S) := hF3
        have HF2 : Hid (Fill wr ex rn k (stA id A S) (stB id B S)) := hF2
        have HC : Hid (Cells wr w.heap.size 16 nodeF) := hC
        have HB : Hid (Below w.heap.size w wr) := hb
        clear hF3 hF2 hC hb F3 F2 C2 BB
        by_cases hlt : k < rn
        · obtain ⟨g, o, e0, lg, c0, c1, c2⟩ := H3.out k hlt
          subst e0
          have bb := HB.out
          replace c0 := (bb.cell (p := ⟨g, _, none⟩) lg).trans c0
          replace c1 := (bb.cell (p := ⟨g, _, none⟩) lg).trans c1
          replace c2 := (bb.cell (p := ⟨g, _, none⟩) lg).trans c2
          obtain ⟨⟨u0, d0⟩, ⟨u1, d1⟩, ⟨u2, d2⟩, z0, z1, z2⟩ := HF3.out.there k hlt
          obtain ⟨⟨v0, y0⟩, ⟨v1, y1⟩, x0, x1⟩ := HF2.out.there k hlt
          obtain ⟨r0, r1⟩ := HU.out.below bb
          clear bb
          have k1 : (0 : Int) ≤ (k : Int) := by omega
          have k2 : (k : Int) < (rn : Int) := by omega
          have q0 : 0 < wr.heap.size := cell_lt r0
          have qg : g < wr.heap.size := cell_lt c0
          have n1 : ¬ g = rs := by omega
          have n2 : ¬ g = ex := by omega
          have n3 : ¬ rs = ex := by omega
          have n4 : ¬ ex = rs := by omega
          by_cases hs : ((S k).toList == id.toList) = true
          · have eA : Hid (stA id A S k = 31) := by show stA id A S k = 31; unfold stA; rw [if_pos hs]
            have eB : Hid (stB id B S k = 1023) := by show stB id B S k = 1023; unfold stB; rw [if_pos hs]
            go_wp2_with fail
            have R := round3 (w := w) HF3.out HF2.out hlt eA.out eB.out lr3 lr2 n3 lr (by omega) HC.out HB.out (.cells #[.int .i64 (A k), .int .i64 (B k), .string (S k)] 52) _ rfl
            go_roundw
            case rel => exact ⟨k + 1, by omega, by go_num, R.1, R.2.1, R.2.2.1, R.2.2.2.1, R.2.2.2.2.1, R.2.2.2.2.2⟩
            case measure => simp [intOf]; omega
          · have hs' : ((S k).toList == id.toList) = false := by simpa using hs
            have eA : Hid (stA id A S k = A k) := by show stA id A S k = A k; unfold stA; rw [if_neg hs]
            have eB : Hid (stB id B S k = B k) := by show stB id B S k = B k; unfold stB; rw [if_neg hs]
            clear hs
            go_wp2_with fail
            have R := round3 (w := w) HF3.out HF2.out hlt eA.out eB.out lr3 lr2 n3 lr (by omega) HC.out HB.out (.cells #[.int .i64 (A k), .int .i64 (B k), .string (S k)] 52) _ rfl
            go_roundw
            case rel => exact ⟨k + 1, by omega, by go_num, R.1, R.2.1, R.2.2.1, R.2.2.2.1, R.2.2.2.2.1, R.2.2.2.2.2⟩
            case measure => simp [intOf]; omega
        · obtain rfl : k = rn := by omega
          obtain ⟨c9, f9⟩ := HC.out 9 (by decide)
          obtain ⟨c10, f10⟩ := HC.out 10 (by decide)
          go_wp2_with fail
          go_meet
          case rel => exact ⟨k, some ⟨ex, 0, none⟩, k, stA id A S, stB id B S, rfl, hr, mid_dec id HC.out HF3.out HF2.out lr3 lr2 (by omega) (by omega), (HB.out.setCell (p := ⟨w.heap.size, 10, none⟩) (Nat.le_refl _) _).setCell (p := ⟨w.heap.size, 9, none⟩) (Nat.le_refl _) _⟩
    · go_wp2_with fail
      go_meet
      case rel => exact ⟨0, none, 0, A, B, rfl, by omega, mid_und HC.out id A B, HB.out⟩
  case rest =>
  obtain ⟨m, ea, ec, RA, RB, rfl, hm, hM, hB⟩ := hcut
  have HM : Hid (Mid wc w.heap.size none id m RA RB ea ec) := hM
  have HB' : Hid (Below w.heap.size w wc) := hB
  clear hM hB HC HB HZ
  obtain ⟨⟨⟨p0, p2, pf2, p11, pf11⟩, -⟩, -⟩ := HM.out
  have mc := make_chan
  have pl := cell_lt p0
  -- the channel
  go_upto_if 92 with fail
  go_cut [20] (fun s20 wx => ∃ ch0, s20 = .chan ch0 ∧ (pre = true → ∃ c, ch0 = some c) ∧ Mid wx w.heap.size ch0 id m RA RB ea ec ∧ Below w.heap.size w wx)
  case first => as_aux_lemma =>
    cases pre
    · go_wp2_with fail
      go_meet
      case rel => exact ⟨none, rfl, (fun h => by cases h), HM.out, HB'.out⟩
    · go_wp2_with fail
      go_meet
      case rel =>
        have hM := (HM.out.set (some wc.heap.size)).below ((Below.refl _ _).alloc (Nat.le_refl _) (.chan 0 #[] false 0 0 false))
        have hBB := HB'.out.setCell (p := ⟨w.heap.size, 11, none⟩) (Nat.le_refl _) (.chan (some wc.heap.size))
        exact ⟨_, rfl, fun _ => ⟨_, rfl⟩, hM, hBB.alloc hBB.size _⟩
  case rest =>
  obtain ⟨ch0, rfl, hpre, hM, hB⟩ := hcut
  clear HM HB' p0 p2 pf2 p11 pf11 mc pl
  have HM : Hid (Mid wc w.heap.size ch0 id m RA RB ea ec) := hM
  have HB' : Hid (Below w.heap.size w wc) := hB
  have HPRE : Hid (pre = true → ∃ c, ch0 = some c) := hpre
  clear hM hB hpre
  have neq := fun (w : World) (a : Option Addr) (n c : Nat) => run_neq_slice_nil_any (P := Ybad.prog) w 23 58 a n c 0 0 Ybad.underlying23
  -- what the circuit has stated
  go_upto_if 99 with fail
  go_cut [21, 22, 23] (fun s21 _ _ wx => ∃ tn ta tc TA TB, s21 = .slice ta tn tc ∧ tn ≤ 1024 ∧ Pairs wx ta tn TA TB ∧ Mid wx w.heap.size ch0 id m RA RB ea ec ∧ Below w.heap.size w wx)
  case first => as_aux_lemma =>
    cases same
    · cases sa with
      | none =>
        go_wp2_with fail
        go_meet
        case rel => exact ⟨0, none, 0, A, B, rfl, by omega, Pairs.zero _ _ _ _, HM.out, HB'.out⟩
      | some sad =>
        obtain ⟨i1, ji, jz0, jz1, jz2⟩ := info_parts Ybad.info54
        go_wp2_with (at_make; refine wpList_make_full _ rfl _ _ 50 rfl wc.heap.size 54 i1 (.agg #[.int .i64 0, .int .i64 0]) 2 Ybad.underlying50 ji jz0 jz1 .i64 .i64 _ _ sn rfl rfl (by omega) (by omega) (by rw [jz2]; omega) (by unfold maxLen; omega) (Nat.le_refl _) ?_; intro w2 ho2 hg2)
        obtain ⟨hN2, f2, hf2⟩ := cells_of_owns ho2
        have b2 : Below wc.heap.size wc w2 := (Below.refl _ _).grown hg2 (Nat.le_refl _) (fun k hk => by cases hk)
        have F2 : Hid (Fill w2 wc.heap.size sn 0 C D) := Fill.zero hf2 _ _
        clear ho2 hg2 hf2 ji jz0 jz1 jz2
        go_loopw [109, 22, 23] (fun i _ _ wr => ∃ k : Nat, k ≤ sn ∧ i = .int .i64 k ∧ Fill wr wc.heap.size sn k C D ∧ wc.heap.size < wr.heap.size ∧ Below wc.heap.size wc wr) (fun i _ _ _ => sn - (intOf i).toNat)
        case atStart => exact ⟨0, by omega, rfl, F2.out, hN2, b2⟩
        case round =>
          obtain ⟨k, hk, rfl, hF2, lr2, hb⟩ := hrel
          have HF2 : Hid (Fill wr wc.heap.size sn k C D) := hF2
          have HB2 : Hid (Below wc.heap.size wc wr) := hb
          clear hF2 hb F2 b2
          by_cases hlt : k < sn
          · obtain ⟨g, o, e0, lg, c0, c1⟩ := H2.out k hlt
            cases e0
            have bb : Below w.heap.size w wr := HB'.out.trans (HB2.out.mono HB'.out.size)
            have lgc : g < wc.heap.size := Nat.lt_of_lt_of_le lg HB'.out.size
            replace c0 := (bb.cell (p := ⟨g, _, none⟩) lg).trans c0
            replace c1 := (bb.cell (p := ⟨g, _, none⟩) lg).trans c1
            obtain ⟨⟨v0, y0⟩, ⟨v1, y1⟩, x0, x1⟩ := HF2.out.there k hlt
            clear bb
            have k1 : (0 : Int) ≤ (k : Int) := by omega
            have k2 : (k : Int) < (sn : Int) := by omega
            have qg : g < wr.heap.size := cell_lt c0
            have n2 : ¬ g = wc.heap.size := by omega
            go_wp2_with fail
            have R := fill_round (w := wc) HF2.out hlt rfl rfl lr2 (Nat.le_refl _) HB2.out (.cells #[.int .i64 (C k), .int .i64 (D k)] 58)
            go_roundw
            case rel => exact ⟨k + 1, by omega, by go_num, R.1, R.2.1, R.2.2⟩
            case measure => simp [intOf]; omega
          · obtain rfl : k = sn := by omega
            go_wp2_with fail
            go_meet
            case rel => exact ⟨k, some ⟨wc.heap.size, 0, none⟩, k, C, D, rfl, hs, HF2.out.pairs lr2, HM.out.below HB2.out, HB'.out.trans (HB2.out.mono HB'.out.size)⟩
    · go_wp2_with (go_at_call 4; refine (HM.out.clone hm).mono ?_; rintro e w1 ⟨a', c', rfl, hp1, hb1⟩)
      go_meet
      case rel => exact ⟨m, a', c', RA, RB, rfl, hm, hp1, HM.out.below hb1, HB'.out.trans (hb1.mono HB'.out.size)⟩
  case rest =>
  obtain ⟨tn, ta, tc, TA, TB, rfl, htn, hp, hM, hB⟩ := hcut
  clear HM HB' neq
  have HM : Hid (Mid wc w.heap.size ch0 id m RA RB ea ec) := hM
  have HB' : Hid (Below w.heap.size w wc) := hB
  have HP : Hid (Pairs wc ta tn TA TB) := hp
  clear hM hB hp
  -- do they differ?
  go_upto_if 129 with fail
  go_cut [24, 25] (fun s24 _ wx => ∃ d, s24 = .bool d ∧ (d = true ↔ ¬ (m = tn ∧ Same m RA RB TA TB)) ∧ Below wc.heap.size wc wx)
  case first => as_aux_lemma =>
    obtain ⟨q, hq⟩ : ∃ q, ((tn : Int) != (m : Int)) = q := ⟨_, rfl⟩
    rw [hq]
    cases q
    · obtain rfl : tn = m := by simp at hq; omega
      clear hq
      have HE : Hid (Pairs wc ea tn RA RB) := HM.out.2.1
      go_wp2_with fail
      go_loopw [25, 24] (fun i d wr => ∃ (k : Nat) (dd : Bool), k ≤ tn ∧ i = .int .i64 k ∧ d = .bool dd ∧ (dd = true ↔ ¬ Same k TA TB RA RB) ∧ Below wc.heap.size wc wr) (fun i _ _ => tn - (intOf i).toNat)
      case atStart => exact ⟨0, false, by omega, rfl, rfl, ⟨(fun h => by cases h), fun h => absurd (fun j hj => by omega) h⟩, Below.refl _ _⟩
      case round =>
        obtain ⟨k, dd, hk, rfl, rfl, hd, hb⟩ := hrel
        have HD : Hid (dd = true ↔ ¬ Same k TA TB RA RB) := hd
        clear hd
        by_cases hlt : k < tn
        · obtain ⟨g, e1, l1, c0, c1⟩ := HP.out.below hb k hlt
          obtain ⟨g', e2, l2, c0', c1'⟩ := HE.out.below hb k hlt
          subst e1
          subst e2
          have k1 : (0 : Int) ≤ (k : Int) := by omega
          have k2 : (k : Int) < (tn : Int) := by omega
          by_cases hs : TA k = RA k ∧ TB k = RB k
          · have HN : Hid (dd = true ↔ ¬ Same (k + 1) TA TB RA RB) := by
              show dd = true ↔ ¬ Same (k + 1) TA TB RA RB
              rw [HD.out, same_succ]
              exact ⟨fun h h' => h h'.1, fun h h' => h ⟨h', hs⟩⟩
            obtain ⟨s1, s2⟩ := hs
            rw [← s1] at c0'
            rw [← s2] at c1'
            clear s1 s2 HD HP HE HM
            generalize TA k = x at *
            generalize TB k = y at *
            go_wp2_with fail
            go_region_held3 (fun w' => w'.cell? ⟨g, k * 2, none⟩ = some (.int .i64 x) ∧ w'.cell? ⟨g, k * 2 + 1, none⟩ = some (.int .i64 y) ∧ w'.cell? ⟨g', k * 2, none⟩ = some (.int .i64 x) ∧ w'.cell? ⟨g', k * 2 + 1, none⟩ = some (.int .i64 y)) (first | go_keep) (fail)
            go_wp2_with fail
            go_roundw
            case rel => exact ⟨k + 1, dd, by omega, by go_num, rfl, HN.out, hb.drew⟩
            case measure => simp [intOf]; omega
          · have HN : Hid (¬ Same (k + 1) TA TB RA RB) := by
              show ¬ Same (k + 1) TA TB RA RB
              rw [same_succ]
              exact fun h' => hs h'.2
            by_cases e : TA k = RA k
            · have hy : (TB k == RB k) = false := by simpa using fun e2 => hs ⟨e, e2⟩
              have hy2 : ¬ TB k = RB k := fun e2 => hs ⟨e, e2⟩
              rw [← e] at c0'
              clear hs HD HP HE HM e
              generalize TA k = x at *
              generalize TB k = y at *
              generalize RB k = y' at *
              go_wp2_with fail
              go_region_held3 (fun w' => w'.cell? ⟨g, k * 2, none⟩ = some (.int .i64 x) ∧ w'.cell? ⟨g, k * 2 + 1, none⟩ = some (.int .i64 y) ∧ w'.cell? ⟨g', k * 2, none⟩ = some (.int .i64 x) ∧ w'.cell? ⟨g', k * 2 + 1, none⟩ = some (.int .i64 y')) (first | go_keep) (fail)
              go_wp2_with fail
              go_roundw
              case rel => exact ⟨k + 1, true, by omega, by go_num, rfl, ⟨fun _ => HN.out, fun _ => rfl⟩, hb.drew⟩
              case measure => simp [intOf]; omega
            · have hx : (TA k == RA k) = false := by simpa using e
              clear hs HD HP HE HM
              generalize TA k = x at *
              generalize TB k = y at *
              generalize RA k = x' at *
              generalize RB k = y' at *
              go_wp2_with fail
              go_region_held3 (fun w' => w'.cell? ⟨g, k * 2, none⟩ = some (.int .i64 x) ∧ w'.cell? ⟨g, k * 2 + 1, none⟩ = some (.int .i64 y) ∧ w'.cell? ⟨g', k * 2, none⟩ = some (.int .i64 x') ∧ w'.cell? ⟨g', k * 2 + 1, none⟩ = some (.int .i64 y')) (first | go_keep) (fail)
              go_wp2_with fail
              go_roundw
              case rel => exact ⟨k + 1, true, by omega, by go_num, rfl, ⟨fun _ => HN.out, fun _ => rfl⟩, hb.drew⟩
              case measure => simp [intOf]; omega
        · obtain rfl : k = tn := by omega
          go_wp2_with fail
          go_meet
          case rel => exact ⟨dd, rfl, HD.out.trans ⟨fun h h' => h (fun j hj => ⟨(h'.2 j hj).1.symm, (h'.2 j hj).2.symm⟩), fun h h' => h ⟨by trivial, fun j hj => ⟨(h' j hj).1.symm, (h' j hj).2.symm⟩⟩⟩, hb⟩
    · have hne : ¬ m = tn := by simp at hq; omega
      clear hq
      go_wp2_with fail
      go_meet
      case rel => exact ⟨true, rfl, ⟨fun _ h => hne h.1, fun _ => rfl⟩, Below.refl _ _⟩
  case rest =>
  obtain ⟨d, rfl, hd, hb⟩ := hcut
  have HM2 : Hid (Mid wc w.heap.size ch0 id m RA RB ea ec) := HM.out.below hb
  have HB2 : Hid (Below w.heap.size w wc) := HB'.out.trans (hb.mono HB'.out.size)
  have HP2 : Hid (Pairs wc ta tn TA TB) := HP.out.below hb
  have HD : Hid (d = true ↔ ¬ (m = tn ∧ Same m RA RB TA TB)) := hd
  clear HM HB' HP hb hd H3 H2
  have ec1 := eql_chan
  have ec2 := neq_chan
  have ec3 := neq_chan'
  go_wp2_with fail
  have hba : ∀ o, Below wc.heap.size wc (wc.alloc o) := fun o => (Below.refl _ _).alloc (Nat.le_refl _) o
  have hwb : ∀ o, Below w.heap.size w (wc.alloc o) := fun o => HB2.out.alloc HB2.out.size o
  have hw0 : w.heap.size ≠ 0 := by have := cell_lt HU.out.1; omega
  have hwlt : w.heap.size < wc.heap.size := HM2.out.1.lt
  refine (take_any wc.heap.size w.heap.size w.heap.size m tn tc ta ch0 id pend (.chan none) RA RB TA TB _ (by omega) (by omega) (Nat.le_refl _) hm htn (by go_simp) (by go_simp) (by go_simp) (by go_simp) (by go_simp) (by go_simp) (by go_simp)
    (HP2.out.below (hba _)) (HM2.out.1.below (hba _)).1.1 ((HM2.out.1.below (hba _)).routes (HU.out.below (hwb _)) hw0 hm)).mono ?_
  rintro e w2 ⟨ch, r, rfl, hr2, hch, h11, h38, h37, h33, hb2⟩
  have hfin : Below w.heap.size w w2 := (hwb _).trans (hb2.mono (Nat.le_refl _))
  have hdr : d = !r := by
    have hd := HD.out
    rw [← hr2] at hd
    cases d <;> cases r <;> simp at hd ⊢
  subst hdr
  have HF : Hid (Below w.heap.size w w2) := hfin
  have hch2 : pre = true → ch0 = some ch := fun h => by
    obtain ⟨c, hc⟩ := HPRE.out h
    rw [hc, hch c hc]
  clear hr2 hch hb2 hfin hba hwb HD HP2 HM2 HB2 HU HPRE
  generalize wc.heap.size = cb at *
  generalize hnb : w.heap.size = nb at *
  have HNB : Hid (w.heap.size = nb) := hnb
  clear hnb
  cases pre
  · clear hch2
    cases pend
    all_goals
      cases r
      all_goals as_aux_lemma =>
        go_wp2_with fail
        go_region_held3 (fun w' => w'.cell? ⟨cb, 38, none⟩ = some (.chan (some ch)) ∧ w'.cell? ⟨nb, 11, none⟩ = some (.chan (some ch))) (first | go_keep) (fail)
        go_wp2_with fail
        go_ret
        exact ⟨rfl, HNB.out ▸ HF.out.drew⟩
  · obtain rfl := hch2 rfl
    clear hch2
    cases pend
    all_goals
      cases r
      all_goals as_aux_lemma =>
        go_wp2_with fail
        go_region_held3 (fun w' => w'.cell? ⟨cb, 38, none⟩ = some (.chan (some ch)) ∧ w'.cell? ⟨nb, 11, none⟩ = some (.chan (some ch))) (first | go_keep) (fail)
        go_wp2_with fail
        go_ret
        exact ⟨rfl, HNB.out ▸ HF.out.drew⟩

set_option maxRecDepth 100000 in
set_option maxHeartbeats 1000000 in
theorem law_any (ra sa : Option Addr) (rn rc sn sc : Nat) (A B C D : Nat → Int) (S : Nat → ByteArray) (und same pend pre : Bool) (id : ByteArray) (w : World) (h3 : Arg3 w ra rn A B S) (h2 : Arg2 w sa sn C D) (hu : Unr w) :
    Calls Ybad.prog 3 #[.slice ra rn rc, .bool und, .string id, .slice sa sn sc, .bool same, .bool pend, .bool pre] w fun e w' => e = .returned (.bool true) ∧ Below w.heap.size w w' := by
  by_cases hr : rn ≤ 1024
  · by_cases hs : sn ≤ 1024
    · exact law_in ra sa rn rc sn sc A B C D S und same pend pre id w hr hs h3 h2 hu
    · have t1 : decide ((1024 : Int) < rn) = false := by simp; omega
      have t2 : decide ((1024 : Int) < sn) = true := by simp; omega
      clear h3 h2 hu
      go_enter Ybad.func3, Ybad.ntmps3
      go_wp2_with fail
      go_ret
      exact ⟨rfl, Below.refl _ _⟩
  · have t1 : decide ((1024 : Int) < rn) = true := by simp; omega
    clear h3 h2 hu
    go_enter Ybad.func3, Ybad.ntmps3
    go_wp2_with fail
    go_ret
    exact ⟨rfl, Below.refl _ _⟩

end Go.Proofs.YbulkavwwDoor
