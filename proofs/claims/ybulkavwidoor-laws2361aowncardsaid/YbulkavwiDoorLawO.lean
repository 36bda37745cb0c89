/-
  The walk of LawS2361AOwn.
-/
import Derived.Test.YbulkavwiDoorAftO
import Derived.Test.YbulkavwiDoorLawA
namespace Go.Proofs.YbulkavwiDoor
open Go.RowKit
set_option linter.unusedSimpArgs false
set_option linter.unusedVariables false
attribute [local go_sem ↓] Go.wp_at_zero Go.wp_at_succ
attribute [-go_sem] Instr.build Builtin.append_
attribute [local go_sem] build0 build3 build46a build46b build46c build62

/-- The three rows that the law makes. -/
def Three (w : World) (gs gt gk n : Nat) (f g h : Nat → Value) : Prop := RowAt w gs 39 n f ∧ RowAt w gt 9 n g ∧ RowAt w gk 4 n h
theorem Three.kept {w W : World} {gs gt gk n : Nat} {f g h : Nat → Value} (t : Three w gs gt gk n f g h) (h1 : W.heap[gs]? = w.heap[gs]?) (h2 : W.heap[gt]? = w.heap[gt]?) (h3 : W.heap[gk]? = w.heap[gk]?) : Three W gs gt gk n f g h :=
  ⟨t.1.kept h1, t.2.1.kept h2, t.2.2.kept h3⟩
theorem heap_set (w : World) (b i q : Nat) (v : Value) (h : q ≠ b) : (w.setCell ⟨b, i, none⟩ v).heap[q]? = w.heap[q]? := by
  simp [World.setCell, Array.getElem?_modify, show ¬ b = q from fun e => h e.symm]
theorem Three.stored {w : World} {gs gt gk n : Nat} {f g h : Nat → Value} (t : Three w gs gt gk n f g h) (n1 : gs ≠ gt) (n2 : gs ≠ gk) (n3 : gt ≠ gk) (i : Nat) (u1 u2 u3 : Value) :
    Three (((w.setCell ⟨gs, i, none⟩ u1).setCell ⟨gt, i, none⟩ u2).setCell ⟨gk, i, none⟩ u3) gs gt gk n (fun j => if j = i then u1 else f j) (fun j => if j = i then u2 else g j) (fun j => if j = i then u3 else h j) :=
  ⟨((t.1.set i u1).kept (heap_set _ gt i gs u2 n1)).kept (heap_set _ gk i gs u3 n2), ((t.2.1.kept (heap_set w gs i gt u1 (Ne.symm n1))).set i u2).kept (heap_set _ gk i gt u3 n3),
    ((t.2.2.kept (heap_set w gs i gk u1 (Ne.symm n2))).kept (heap_set _ gt i gk u2 (Ne.symm n3))).set i u3⟩

set_option maxRecDepth 100000 in
set_option maxHeartbeats 4000000 in
theorem law_own (o : Int) (va : Option Addr) (vn vc : Nat) (S : Nat → ByteArray) (w : World) (h0 : 0 ≤ o) (h1 : o < 256) (hv : vn ≤ 1024) (hS : Strs w va vn S) :
    Calls Ybad.prog 4 #[.int .u8 o, .slice va vn vc] w fun e w' => e = .returned (.bool true) ∧ Below w.heap.size w w' := by
  have t1 : decide ((1024 : Int) < vn) = false := by simp; omega
  obtain ⟨i1, ji, jz0, jz1, jz2⟩ := info_parts Ybad.info39
  obtain ⟨i2, li, lz0, lz1, lz2⟩ := info_parts Ybad.info9
  obtain ⟨i3, qi, qz0, qz1, qz2⟩ := info_parts Ybad.info4
  obtain ⟨na, hna, hna20⟩ : ∃ na : Nat, o % 20 = (na : Int) ∧ na < 20 := ⟨(o % 20).toNat, by omega, by omega⟩
  have HS : Hid (Strs w va vn S) := hS
  clear hS
  go_enter Ybad.func4, Ybad.ntmps4
  go_wp2_with (first
    | (at_make; refine wpList_make_full _ rfl _ _ 40 rfl w.heap.size 39 i1 (.pointer none) 1 Ybad.underlying40 ji jz0 jz1 .i64 .i64 _ _ vn rfl rfl (by omega) (by omega) (by rw [jz2]; omega) (by unfold maxLen; omega) (by simp; omega) ?_; intro w1 ho1 hg1)
    | (at_make; refine wpList_make_full _ rfl _ _ 22 rfl w1.heap.size 9 i2 (.string ⟨#[]⟩) 1 Ybad.underlying22 li lz0 lz1 .i64 .i64 _ _ vn rfl rfl (by omega) (by omega) (by rw [lz2]; omega) (by unfold maxLen; omega) (Nat.le_refl _) ?_; intro w2 ho2 hg2)
    | (at_make; refine wpList_make_full _ rfl _ _ 64 rfl w2.heap.size 4 i3 (.bool false) 1 Ybad.underlying64 qi qz0 qz1 .i64 .i64 _ _ vn rfl rfl (by omega) (by omega) (by rw [qz2]; omega) (by unfold maxLen; omega) (Nat.le_refl _) ?_; intro w3 ho3 hg3))
  have hF1 : Below (four w).heap.size (four w) w1 := (Below.refl _ _).grown hg1 (Nat.le_refl _) (fun k hk => by cases hk)
  have hF2 : Below w1.heap.size w1 w2 := (Below.refl _ _).grown hg2 (Nat.le_refl _) (fun k hk => by cases hk)
  have hF3 : Below w2.heap.size w2 w3 := (Below.refl _ _).grown hg3 (Nat.le_refl _) (fun k hk => by cases hk)
  have hF : Below (four w).heap.size (four w) w3 := (hF1.trans (hF2.mono hF1.size)).trans (hF3.mono (Nat.le_trans hF1.size hF2.size))
  have hB := four_bld w w3 hF (fun _ => 0) (fun _ => 0)
  have sF : (four w).heap.size = w.heap.size + 4 := by unfold four; simp
  have hR1 : RowAt w1 (w.heap.size + 1 + 1 + 1 + 1) 39 vn (fun _ => .pointer none) := by
    have h : RowAt w1 (four w).heap.size 39 vn (fun _ => .pointer none) := RowAt.of_owns ho1 (fun j hj => by simp [madeCells, hj, Value.cells, Nat.mod_one])
    rw [sF] at h
    exact h
  have hR2 : RowAt w2 w1.heap.size 9 vn (fun _ => .string ⟨#[]⟩) := RowAt.of_owns ho2 (fun j hj => by simp [madeCells, hj, Value.cells, Nat.mod_one])
  have hR3 : RowAt w3 w2.heap.size 4 vn (fun _ => .bool false) := RowAt.of_owns ho3 (fun j hj => by simp [madeCells, hj, Value.cells, Nat.mod_one])
  have l1 := hR1.lt
  have l2 := hR2.lt
  have l3 := hR3.lt
  have hR1' := (hR1.kept (hF2.block _ l1)).kept (hF3.block _ (by omega))
  have hR2' := hR2.kept (hF3.block _ l2)
  have HB : Hid (Bld w w3 w3.heap.size (w.heap.size + 1 + 1 + 1) w.heap.size (w.heap.size + 1) (w.heap.size + 1 + 1) 0 (fun _ => 0) (fun _ => 0) (.slice none 0 0)) := hB
  have HR : Hid (Three w3 (w.heap.size + 1 + 1 + 1 + 1) w1.heap.size w2.heap.size vn (fun _ => .pointer none) (fun _ => .string ⟨#[]⟩) (fun _ => .bool false)) := ⟨hR1', hR2', hR3⟩
  have sz : Hid (w.heap.size < w.heap.size + 1 ∧ w.heap.size + 1 < w.heap.size + 1 + 1 ∧ w.heap.size + 1 + 1 < w.heap.size + 1 + 1 + 1 ∧ w.heap.size + 1 + 1 + 1 < w.heap.size + 1 + 1 + 1 + 1 ∧ w.heap.size + 1 + 1 + 1 + 1 < w1.heap.size ∧ w1.heap.size < w2.heap.size ∧ w2.heap.size < w3.heap.size) := ⟨by omega, by omega, by omega, by omega, l1, l2, l3⟩
  clear hF hF1 hF2 hF3 hB hR1 hR2 hR3 hR1' hR2' ho1 ho2 ho3 hg1 hg2 hg3 sF l1 l2 l3
  generalize w.heap.size + 1 + 1 + 1 + 1 = gs at *
  generalize w.heap.size + 1 + 1 + 1 = pb at *
  generalize w.heap.size + 1 + 1 = mb at *
  generalize w.heap.size + 1 = nb at *
  generalize w1.heap.size = gt at *
  generalize w2.heap.size = gk at *
  generalize w3.heap.size = B at *
  go_loopw [13] (fun i wr => ∃ (k : Nat) (kid sch : Nat → Nat) (chv : Value), k ≤ na ∧ i = .int .i64 k ∧ (∀ j, j < k → sch j = mb) ∧ Bld w wr B pb w.heap.size nb mb k kid sch chv ∧ Three wr gs gt gk vn (fun _ => .pointer none) (fun _ => .string ⟨#[]⟩) (fun _ => .bool false)) (fun i _ => na - (intOf i).toNat)
  case atStart => exact ⟨0, _, _, _, by omega, rfl, (fun j hj => by omega), HB.out, HR.out⟩
  case round =>
    obtain ⟨k, kid, sch, chv, hk, rfl, hsch, hb, hr⟩ := hrel
    obtain ⟨z1, z2, z3, z4, z5, z6, z7⟩ := sz.out
    by_cases hlt : k < na
    · have hI : Bld w (wr.alloc (.cells (instC (some ⟨mb, 0, none⟩) (some ⟨pb, 0, none⟩) ⟨#[]⟩) 46)) B pb w.heap.size nb mb k kid sch chv := hb.grown ((Below.refl _ _).alloc (Nat.le_refl _) _)
      have hx := World.alloc_heap_new wr (.cells (instC (some ⟨mb, 0, none⟩) (some ⟨pb, 0, none⟩) ⟨#[]⟩) 46)
      obtain ⟨v', w', hrun, p2, pf2, ⟨g', c', rfl⟩, hsz', hb', hq', -⟩ := hI.push wr.heap.size mb (by unfold World.cell?; rw [hx]; rfl) ⟨_, hx⟩ hb.size (by omega) (by omega) (by omega) (by omega) (by omega) (by omega) (by omega) (by omega)
      have c2 := hb.c2
      have lpr : pb < wr.heap.size := Nat.lt_of_lt_of_le hb.lp hb.size
      have k2 : decide ((k : Int) < (na : Int)) = true := by simp; omega
      have HB' : Hid (Bld w (w'.setCell ⟨pb, 2, none⟩ (.slice (some ⟨g', 0, none⟩) (k + 1) c')) B pb w.heap.size nb mb (k + 1) (fun j => if j = k then wr.heap.size else kid j) (fun j => if j = k then mb else sch j) (.slice (some ⟨g', 0, none⟩) (k + 1) c')) := hb'
      have HR' : Hid (Three (w'.setCell ⟨pb, 2, none⟩ (.slice (some ⟨g', 0, none⟩) (k + 1) c')) gs gt gk vn (fun _ => .pointer none) (fun _ => .string ⟨#[]⟩) (fun _ => .bool false)) :=
        hr.kept ((hq' gs (by omega) (by omega)).trans (Below.heap_alloc _ _ _ hr.1.lt)) ((hq' gt (by omega) (by omega)).trans (Below.heap_alloc _ _ _ hr.2.1.lt)) ((hq' gk (by omega) (by omega)).trans (Below.heap_alloc _ _ _ hr.2.2.lt))
      unfold encP at hrun
      rw [World.size_alloc] at hrun
      clear hb' hb hI hx hq' hr z1 z2 z3 z4 z5 z6 z7 HB HR
      go_wp2_with fail
      go_roundw
      case rel =>
        refine ⟨k + 1, _, _, _, by omega, by go_num, ?_, HB'.out, HR'.out⟩
        intro j hj
        by_cases e : j = k
        · simp [e]
        · simp only [e, if_false]
          exact hsch j (by omega)
      case measure => simp [intOf]; omega
    · obtain rfl : na = k := by omega
      have k2 : decide ((na : Int) < (na : Int)) = false := by simp
      have HB1 : Hid (Bld w wr B pb w.heap.size nb mb na kid sch chv) := hb
      have HR1 : Hid (Three wr gs gt gk vn (fun _ => .pointer none) (fun _ => .string ⟨#[]⟩) (fun _ => .bool false)) := hr
      clear hb hr z1 z2 z3 z4 z5 z6 z7 HB HR
      go_wp2_with fail
      clear k2
      go_loopw [14] (fun i wr => ∃ (k : Nat) (kid sch : Nat → Nat) (chv : Value), k ≤ vn ∧ i = .int .i64 k ∧ (∀ j, j < na → sch j = mb) ∧ (∀ j, na ≤ j → j < na + k → sch j = nb) ∧ Bld w wr B pb w.heap.size nb mb (na + k) kid sch chv ∧
        Three wr gs gt gk vn (fun j => if j < k then encP (kid (na + j)) else .pointer none) (fun j => if j < k then .string (S j) else .string ⟨#[]⟩) (fun j => if j < k then .bool true else .bool false) ∧ ∀ j, j < k → wr.cell? ⟨kid (na + j), 4, none⟩ = some (.string (S j))) (fun i _ => vn - (intOf i).toNat)
      case atStart => exact ⟨0, kid, sch, chv, by omega, rfl, hsch, (fun j hj hj' => by omega), HB1.out, ⟨HR1.out.1.congr (fun j hj => by simp), HR1.out.2.1.congr (fun j hj => by simp), HR1.out.2.2.congr (fun j hj => by simp)⟩, (fun j hj => by omega)⟩
      case round =>
        clear hsch HB1 HR1 kid sch chv
        obtain ⟨k, kid, sch, chv, hk, rfl, hsm, hsn, hb, hr, hval⟩ := hrel
        obtain ⟨z1, z2, z3, z4, z5, z6, z7⟩ := sz.out
        by_cases hlt : k < vn
        · obtain ⟨sb, so, rfl, hs⟩ := HS.out k hlt
          have lsb := cell_lt hs
          have hws := hb.below.size
          have cs := (hb.below.cell (p := ⟨sb, so + k, none⟩) lsb).trans hs
          obtain ⟨s, hs'⟩ : ∃ s, S k = s := ⟨_, rfl⟩
          rw [hs'] at cs
          have cn1 := hr.1.cell k hlt
          have cn2 := hr.2.1.cell k hlt
          have cn3 := hr.2.2.cell k hlt
          rw [if_neg (by omega)] at cn1 cn2 cn3
          have fn1 := hr.1.frozen k
          have fn2 := hr.2.1.frozen k
          have fn3 := hr.2.2.frozen k
          have bs := ((hb.store gs k (encP wr.heap.size) (by omega) (by omega) (by omega) (by omega) (by omega) (by omega)).store gt k (.string s) (by omega) (by omega) (by omega) (by omega) (by omega) (by omega)).store gk k (.bool true) (by omega) (by omega) (by omega) (by omega) (by omega) (by omega)
          obtain ⟨g', c', w', hrun, p2, pf2, hb', hq', hq2, hx4⟩ := bs.more nb s (by omega) (by omega) (by omega) (by omega) (by omega) (by omega) (by omega) (by omega)
          have hr0 := hr.stored (by omega) (by omega) (by omega) k (encP wr.heap.size) (.string s) (.bool true)
          have hr1 := hr0.kept (hq' gs (by omega) (by omega)) (hq' gt (by omega) (by omega)) (hq' gk (by omega) (by omega))
          have hvals : ∀ j, j < k → (w'.setCell ⟨pb, 2, none⟩ (.slice (some ⟨g', 0, none⟩) (na + k + 1) c')).cell? ⟨kid (na + j), 4, none⟩ = some (.string (S j)) := fun j hj => by
            obtain ⟨ca, hca⟩ := bs.typ (na + j) (by omega)
            have hg := hb.ge (na + j) (by omega)
            have hlp := hb.lp
            have e1 := hq2 (kid (na + j)) ca (by omega) hca
            have e2 : ∀ (V : World) (g i : Nat) (u : Value), g ≠ kid (na + j) → (V.setCell ⟨g, i, none⟩ u).cell? ⟨kid (na + j), 4, none⟩ = V.cell? ⟨kid (na + j), 4, none⟩ := fun V g i u hne => World.cell?_setCell_other _ _ _ _ (fun hh => hne (Addr.mk.inj hh).1)
            unfold World.cell?
            rw [e1]
            have e3 := (e2 ((wr.setCell ⟨gs, k, none⟩ (encP wr.heap.size)).setCell ⟨gt, k, none⟩ (.string s)) gk k (.bool true) (by omega)).trans ((e2 (wr.setCell ⟨gs, k, none⟩ (encP wr.heap.size)) gt k (.string s) (by omega)).trans ((e2 wr gs k (encP wr.heap.size) (by omega)).trans (hval j hj)))
            unfold World.cell? at e3
            exact e3
          have c2 := hb.c2
          have lpr : pb < wr.heap.size := Nat.lt_of_lt_of_le hb.lp hb.size
          have lgs : gs < wr.heap.size := hr.1.lt
          have lgt : gt < wr.heap.size := hr.2.1.lt
          have lgk : gk < wr.heap.size := hr.2.2.lt
          have lsr : sb < wr.heap.size := by omega
          have k2 : decide ((k : Int) < (vn : Int)) = true := by simp; omega
          have k3 : (0 : Int) ≤ (k : Int) := by omega
          have k4 : (k : Int) < (vn : Int) := by omega
          have n1 : pb ≠ gs := by omega
          have n2 : pb ≠ gt := by omega
          have n3 : pb ≠ gk := by omega
          have n4 : gs ≠ gt := by omega
          have n5 : gs ≠ gk := by omega
          have n6 : gt ≠ gk := by omega
          have n7 : sb ≠ gs := by omega
          have n8 : sb ≠ gt := by omega
          have n9 : sb ≠ gk := by omega
          have n4' : gt ≠ gs := by omega
          have n5' : gk ≠ gs := by omega
          have n6' : gk ≠ gt := by omega
          simp only [World.size_setCell] at hrun hb' hr1 hx4
          unfold encP at hrun
          have HB' : Hid (_ ∧ _ ∧ _ ∧ _) := And.intro hb' (And.intro hr1 (And.intro hvals hx4))
          clear hb' hb hr hr1 hr0 hq' hq2 hx4 hvals hval z1 z2 z3 z4 z5 z6 z7 bs hs hws
          go_wp2_with fail
          go_region
          go_wp2_with fail
          go_roundw
          case rel =>
            obtain ⟨q1, ⟨q2, q3, q4⟩, q5, q6⟩ := HB'.out
            refine ⟨k + 1, _, _, _, by omega, by go_num, ?_, ?_, q1, ⟨q2.congr ?_, q3.congr ?_, q4.congr ?_⟩, ?_⟩
            · intro j hj
              simp only [show j ≠ na + k by omega, if_false]
              exact hsm j hj
            · intro j h1 h2
              by_cases e : j = na + k
              · simp [e]
              · simp only [e, if_false]
                exact hsn j h1 (by omega)
            · intro j hj
              by_cases e : j = k
              · subst e
                simp
              · simp only [e, if_false, show (na + j = na + k) = False by simp; omega]
                by_cases l : j < k
                · simp [l, show j < k + 1 by omega]
                · simp [l, show ¬ j < k + 1 by omega]
            · intro j hj
              by_cases e : j = k
              · subst e
                simp [hs']
              · simp only [e, if_false]
                by_cases l : j < k
                · simp [l, show j < k + 1 by omega]
                · simp [l, show ¬ j < k + 1 by omega]
            · intro j hj
              by_cases e : j = k
              · subst e
                simp
              · simp only [e, if_false]
                by_cases l : j < k
                · simp [l, show j < k + 1 by omega]
                · simp [l, show ¬ j < k + 1 by omega]
            · intro j hj
              by_cases e : j = k
              · subst e
                simp only [if_true]
                rw [hs']
                exact q6
              · simp only [show (na + j = na + k) = False by simp; omega, if_false]
                exact q5 j (by omega)
          case measure => simp [intOf]; omega
        · obtain rfl : vn = k := by omega
          have k2 : decide ((vn : Int) < (vn : Int)) = false := by simp
          obtain ⟨ca, cc, ht, hgp⟩ := hb.tree (a := na) (by omega) (by omega) (by omega) hsm hsn
          have HT : Hid (StoodO w wr B pb nb mb gs gt gk na vn ca cc kid sch chv S) := ⟨ht, hgp, hb, hr.1.congr (fun j hj => by simp [hj]), hr.2.1.congr (fun j hj => by simp [hj]), hr.2.2.congr (fun j hj => by simp [hj]), hval⟩
          clear ht hgp hb hr z1 z2 z3 z4 z5 z6 z7 hsm hsn hval
          go_wp2_with (first
            | (go_at_call 6; refine (newEval _).mono ?_; rintro e W ⟨eb, ib, cl, rfl, he, hi, hbW, h1', h2', h3'⟩)
            | (go_at_call 7; refine (after_own w wr W B pb nb mb gs gt gk na vn cc eb ib cl ca kid sch chv S HT.out sz.out.1 sz.out.2.1 sz.out.2.2.1 sz.out.2.2.2.1 sz.out.2.2.2.2.1 sz.out.2.2.2.2.2.1 he hi hbW h1' h2' h3').mono ?_; rintro e W' ⟨bm, BB, rfl, hG, hR, hBel⟩)
            | (go_at_call 8; refine (check_any bm BB gs gt gk vn _ _ _ hv hG hR).mono ?_; rintro e W2 ⟨rfl, hB2⟩))
          go_ret
          exact ⟨rfl, hBel.trans (hB2.mono hBel.size)⟩

set_option maxRecDepth 100000 in
set_option maxHeartbeats 1000000 in
/-- LawS2361AOwn, whatever comes in. -/
theorem law_own_any (o : Int) (va : Option Addr) (vn vc : Nat) (S : Nat → ByteArray) (w : World) (h0 : 0 ≤ o) (h1 : o < 256) (hS : Strs w va vn S) :
    Calls Ybad.prog 4 #[.int .u8 o, .slice va vn vc] w fun e w' => e = .returned (.bool true) ∧ Below w.heap.size w w' := by
  by_cases hv : vn ≤ 1024
  · exact law_own o va vn vc S w h0 h1 hv hS
  · have t1 : decide ((1024 : Int) < vn) = true := by simp; omega
    go_enter Ybad.func4, Ybad.ntmps4
    go_wp2_with fail
    go_ret
    exact ⟨rfl, Below.refl _ _⟩
end Go.Proofs.YbulkavwiDoor
