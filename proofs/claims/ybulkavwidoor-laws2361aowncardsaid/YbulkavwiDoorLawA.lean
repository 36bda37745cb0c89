/-
  The walk of LawS2361AAll.
-/
import Derived.Test.YbulkavwiDoorAfter
namespace Go.Proofs.YbulkavwiDoor
open Go.RowKit
set_option linter.unusedSimpArgs false
set_option linter.unusedVariables false
attribute [local go_sem ↓] Go.wp_at_zero Go.wp_at_succ
attribute [-go_sem] Instr.build Builtin.append_
attribute [local go_sem] build0 build3 build46a build46b build46c build62

/-- What a slice of strings that came in holds. -/
def Strs (w : World) (a : Option Addr) (n : Nat) (S : Nat → ByteArray) : Prop := ∀ j, j < n → ∃ b o, a = some ⟨b, o, none⟩ ∧ w.cell? ⟨b, o + j, none⟩ = some (.string (S j))

set_option maxRecDepth 100000 in
set_option maxHeartbeats 2000000 in
theorem law_all (o : Int) (va : Option Addr) (vn vc : Nat) (S : Nat → ByteArray) (w : World) (h0 : 0 ≤ o) (h1 : o < 256) (hv : vn ≤ 1024) (hS : Strs w va vn S) :
    Calls Ybad.prog 3 #[.int .u8 o, .slice va vn vc] w fun e w' => e = .returned (.bool true) ∧ Below w.heap.size w w' := by
  have t1 : decide ((1024 : Int) < vn) = false := by simp; omega
  obtain ⟨i1, ji, jz0, jz1, jz2⟩ := info_parts Ybad.info39
  obtain ⟨na, hna, hna20⟩ : ∃ na : Nat, o % 20 = (na : Int) ∧ na < 20 := ⟨(o % 20).toNat, by omega, by omega⟩
  have HS : Hid (Strs w va vn S) := hS
  clear hS
  go_enter Ybad.func3, Ybad.ntmps3
  go_wp2_with (at_make; refine wpList_make_full _ rfl _ _ 40 rfl w.heap.size 39 i1 (.pointer none) 1 Ybad.underlying40 ji jz0 jz1 .i64 .i64 _ _ vn rfl rfl (by omega) (by omega) (by rw [jz2]; omega) (by unfold maxLen; omega) (by simp; omega) ?_; intro w1 ho1 hg1)
  have hF : Below (four w).heap.size (four w) w1 := (Below.refl _ _).grown hg1 (Nat.le_refl _) (fun k hk => by cases hk)
  have hB := four_bld w w1 hF (fun _ => 0) (fun _ => 0)
  have sF : (four w).heap.size = w.heap.size + 4 := by unfold four; simp
  have hR : RowAt w1 (w.heap.size + 1 + 1 + 1 + 1) 39 vn (fun _ => .pointer none) := by
    have h : RowAt w1 (four w).heap.size 39 vn (fun _ => .pointer none) := RowAt.of_owns ho1 (fun j hj => by simp [madeCells, hj, Value.cells, Nat.mod_one])
    rw [sF] at h
    exact h
  have sW : w.heap.size + 1 + 1 + 1 + 1 < w1.heap.size := hR.lt
  have HB : Hid (Bld w w1 w1.heap.size (w.heap.size + 1 + 1 + 1) w.heap.size (w.heap.size + 1) (w.heap.size + 1 + 1) 0 (fun _ => 0) (fun _ => 0) (.slice none 0 0)) := hB
  have HR : Hid (RowAt w1 (w.heap.size + 1 + 1 + 1 + 1) 39 vn (fun _ => .pointer none)) := hR
  clear hF hB hR ho1 hg1 sF
  have sz : Hid (w.heap.size < w.heap.size + 1 ∧ w.heap.size + 1 < w.heap.size + 1 + 1 ∧ w.heap.size + 1 + 1 < w.heap.size + 1 + 1 + 1 ∧ w.heap.size + 1 + 1 + 1 < w.heap.size + 1 + 1 + 1 + 1 ∧ w.heap.size + 1 + 1 + 1 + 1 < w1.heap.size) := ⟨by omega, by omega, by omega, by omega, sW⟩
  clear sW
  generalize w.heap.size + 1 + 1 + 1 + 1 = gs at *
  generalize w.heap.size + 1 + 1 + 1 = pb at *
  generalize w.heap.size + 1 + 1 = mb at *
  generalize w.heap.size + 1 = nb at *
  generalize w1.heap.size = B at *
  go_loopw [11] (fun i wr => ∃ (k : Nat) (kid sch : Nat → Nat) (chv : Value), k ≤ na ∧ i = .int .i64 k ∧ (∀ j, j < k → sch j = mb) ∧ Bld w wr B pb w.heap.size nb mb k kid sch chv ∧ RowAt wr gs 39 vn (fun _ => .pointer none)) (fun i _ => na - (intOf i).toNat)
  case atStart => exact ⟨0, _, _, _, by omega, rfl, (fun j hj => by omega), HB.out, HR.out⟩
  case round =>
    obtain ⟨k, kid, sch, chv, hk, rfl, hsch, hb, hr⟩ := hrel
    obtain ⟨z1, z2, z3, z4, z5⟩ := sz.out
    by_cases hlt : k < na
    · have hI : Bld w (wr.alloc (.cells (instC (some ⟨mb, 0, none⟩) (some ⟨pb, 0, none⟩) ⟨#[]⟩) 46)) B pb w.heap.size nb mb k kid sch chv := hb.grown ((Below.refl _ _).alloc (Nat.le_refl _) _)
      have hx := World.alloc_heap_new wr (.cells (instC (some ⟨mb, 0, none⟩) (some ⟨pb, 0, none⟩) ⟨#[]⟩) 46)
      obtain ⟨v', w', hrun, p2, pf2, ⟨g', c', rfl⟩, hsz', hb', hq', -⟩ := hI.push wr.heap.size mb (by unfold World.cell?; rw [hx]; rfl) ⟨_, hx⟩ hb.size (by omega) (by omega) (by omega) (by omega) (by omega) (by omega) (by omega) (by omega)
      have c2 := hb.c2
      have lpr : pb < wr.heap.size := Nat.lt_of_lt_of_le hb.lp hb.size
      have k2 : decide ((k : Int) < (na : Int)) = true := by simp; omega
      have HB' : Hid (Bld w (w'.setCell ⟨pb, 2, none⟩ (.slice (some ⟨g', 0, none⟩) (k + 1) c')) B pb w.heap.size nb mb (k + 1) (fun j => if j = k then wr.heap.size else kid j) (fun j => if j = k then mb else sch j) (.slice (some ⟨g', 0, none⟩) (k + 1) c')) := hb'
      have HR' : Hid (RowAt (w'.setCell ⟨pb, 2, none⟩ (.slice (some ⟨g', 0, none⟩) (k + 1) c')) gs 39 vn (fun _ => .pointer none)) := hr.kept ((hq' gs z5 (by omega)).trans (Below.heap_alloc _ _ _ hr.lt))
      unfold encP at hrun
      rw [World.size_alloc] at hrun
      clear hb' hb hI hx hq' hr z1 z2 z3 z4 z5 HB HR
      go_wp2_with fail
      go_roundw
      case rel =>
        refine ⟨k + 1, _, _, _, by omega, by go_num, ?_, HB'.out, HR'.out⟩
        intro j hj
        by_cases e : j = k
        · simp [e]
        · simp only [e, if_false]
          exact hsch j (by omega)
      case measure => simp [intOf]; omega
    · obtain rfl : na = k := by omega
      have k2 : decide ((na : Int) < (na : Int)) = false := by simp
      have HB1 : Hid (Bld w wr B pb w.heap.size nb mb na kid sch chv) := hb
      have HR1 : Hid (RowAt wr gs 39 vn (fun _ => .pointer none)) := hr
      clear hb hr z1 z2 z3 z4 z5 HB HR
      go_wp2_with fail
      clear k2
      go_loopw [12] (fun i wr => ∃ (k : Nat) (kid sch : Nat → Nat) (chv : Value), k ≤ vn ∧ i = .int .i64 k ∧ (∀ j, j < na → sch j = mb) ∧ (∀ j, na ≤ j → j < na + k → sch j = nb) ∧ Bld w wr B pb w.heap.size nb mb (na + k) kid sch chv ∧ RowAt wr gs 39 vn (fun j => if j < k then encP (kid (na + j)) else .pointer none)) (fun i _ => vn - (intOf i).toNat)
      case atStart => exact ⟨0, kid, sch, chv, by omega, rfl, hsch, (fun j hj hj' => by omega), HB1.out, HR1.out.congr (fun j hj => by simp)⟩
      case round =>
        clear hsch HB1 HR1 kid sch chv
        obtain ⟨k, kid, sch, chv, hk, rfl, hsm, hsn, hb, hr⟩ := hrel
        obtain ⟨z1, z2, z3, z4, z5⟩ := sz.out
        by_cases hlt : k < vn
        · obtain ⟨sb, so, rfl, hs⟩ := HS.out k hlt
          have cs := (hb.below.cell (p := ⟨sb, so + k, none⟩) (cell_lt hs)).trans hs
          obtain ⟨s, hs'⟩ : ∃ s, S k = s := ⟨_, rfl⟩
          rw [hs'] at cs
          have cn := hr.cell k hlt
          rw [if_neg (by omega)] at cn
          have fn := hr.frozen k
          have bs := hb.store gs k (encP wr.heap.size) z5 (by omega) (by omega) (by omega) (by omega) (by omega)
          obtain ⟨g', c', w', hrun, p2, pf2, hb', hq', -, -⟩ := bs.more nb s (by omega) (by omega) (by omega) (by omega) (by omega) (by omega) (by omega) (by omega)
          have hr1 := (hr.set k (encP wr.heap.size)).kept (hq' gs z5 (by omega))
          have c2 := hb.c2
          have lpr : pb < wr.heap.size := Nat.lt_of_lt_of_le hb.lp hb.size
          have lgs : gs < wr.heap.size := hr.lt
          have k2 : decide ((k : Int) < (vn : Int)) = true := by simp; omega
          have k3 : (0 : Int) ≤ (k : Int) := by omega
          have k4 : (k : Int) < (vn : Int) := by omega
          have npg : pb ≠ gs := by omega
          simp only [World.size_setCell] at hrun hb' hr1
          unfold encP at hrun
          have HB' : Hid (_ ∧ _) := And.intro hb' hr1
          clear hb' hb hr hr1 hq' z1 z2 z3 z4 z5 bs hs
          go_wp2_with fail
          go_region
          go_wp2_with fail
          go_roundw
          case rel =>
            refine ⟨k + 1, _, _, _, by omega, by go_num, ?_, ?_, HB'.out.1, HB'.out.2.congr ?_⟩
            · intro j hj
              simp only [show j ≠ na + k by omega, if_false]
              exact hsm j hj
            · intro j h1 h2
              by_cases e : j = na + k
              · simp [e]
              · simp only [e, if_false]
                exact hsn j h1 (by omega)
            · intro j hj
              by_cases e : j = k
              · subst e
                simp
              · simp only [e, if_false, show (na + j = na + k) = False by simp; omega]
                by_cases l : j < k
                · simp [l, show j < k + 1 by omega]
                · simp [l, show ¬ j < k + 1 by omega]
          case measure => simp [intOf]; omega
        · obtain rfl : vn = k := by omega
          have k2 : decide ((vn : Int) < (vn : Int)) = false := by simp
          obtain ⟨ca, cc, ht, hgp⟩ := hb.tree (a := na) (by omega) (by omega) (by omega) hsm hsn
          have HT : Hid (Stood w wr B pb nb mb gs na vn ca cc kid sch chv) := ⟨ht, hgp, hb, hr.congr (fun j hj => by simp [hj])⟩
          clear ht hgp hb hr z1 z2 z3 z4 z5 hsm hsn
          go_wp2_with (go_at_call 6; refine (newEval _).mono ?_; rintro e W ⟨eb, ib, cl, rfl, he, hi, hbW, h1', h2', h3'⟩)
          obtain ⟨z1, z2, z3, z4, z5⟩ := sz.out
          refine (after_all w wr W B pb nb mb gs na vn cc eb ib cl ca kid sch chv HT.out z1 z2 z3 z4 he hi hbW h1' h2' h3').mono ?_
          rintro e W' ⟨bm, es, clm, vo, cv, rfl, gm, hes, hlk, hrow, hib, heb, hns, hbel⟩
          have HBel : Hid (Below w.heap.size w W') := hbel
          have HNs : Hid (∀ j, j < vn → W'.cell? ⟨gs, j, none⟩ = some (encP (kid (na + j)))) := hns
          have HRow : Hid (∀ j, j < vn → ∃ g, vo = some ⟨g, 0, none⟩ ∧ W'.cell? ⟨g, j, none⟩ = some (encP (kid (na + j)))) := hrow
          have HIb : Hid (W'.heap[ib]? = some (.map #[{ key := ik pb nb none ⟨#[]⟩, val := .map (some bm), born := cl }] (cl + 1)) ∧ W'.cell? ⟨eb, 3, none⟩ = some (.map (some ib))) := ⟨hib, heb⟩
          have HLk : Hid (∀ V : World, V.heap[bm]? = some (.map es clm) → (Instr.lookup 49 (.map (some bm)) (.string ⟨#[]⟩) false).run Ybad.prog V = .ok (.slice vo vn cv) V) := hlk
          have HGm : Hid (W'.heap[bm]? = some (.map es clm)) := gm
          clear he hi hbW h1' h2' h3' HT hbel hns hrow hib heb hlk z1 z2 z3 z4 z5 k2
          by_cases hv0 : vn = 0
          · subst hv0
            have q1 := HLk.out W' gm
            rw [if_pos rfl] at hes
            have q2 : (Builtin.len_ #[49] 3 #[.map (some bm)]).run Ybad.prog W' = .ok (.int .i64 0) W' := by rw [len49 gm, hes]; rfl
            have q3 := lookup54_one (w := W') pb nb ⟨#[]⟩ (.map (some bm)) HIb.out.1
            unfold ik at q3
            have q4 : (Builtin.len_ #[54] 3 #[.map (some ib)]).run Ybad.prog W' = .ok (.int .i64 1) W' := len54 HIb.out.1
            have q5 := HIb.out.2
            clear gm
            go_wp2_with (go_at_call 7; refine (index_hit eb ib (cl + 1) cl pb nb bm _ HIb.out.2 HIb.out.1).mono ?_; rintro e W2 ⟨rfl, hb2⟩; have g2 := (hb2.block bm (Array.getElem?_eq_some_iff.1 HGm.out).1).trans HGm.out; have r1 := HLk.out W2 g2; have r2 := len49 g2; rw [hes] at r2; clear g2)
            go_ret
            exact ⟨rfl, HBel.out.trans (hb2.mono HBel.out.size)⟩
          · obtain ⟨g, rfl, -⟩ := HRow.out 0 (by omega)
            have q1 := HLk.out W' gm
            rw [if_neg hv0] at hes
            have q2 : (Builtin.len_ #[49] 3 #[.map (some bm)]).run Ybad.prog W' = .ok (.int .i64 1) W' := by rw [len49 gm, hes]; rfl
            have e0 : decide ((vn : Int) = 0) = false := by simp; omega
            clear gm
            go_wp2_with fail
            go_loopw [16] (fun i wr => ∃ (k : Nat), k ≤ vn ∧ i = .int .i64 k ∧ Below W'.heap.size W' wr) (fun i _ => vn - (intOf i).toNat)
            case atStart => exact ⟨0, by omega, rfl, Below.refl _ _⟩
            case round =>
              obtain ⟨k, hk, rfl, hb⟩ := hrel
              by_cases hlt : k < vn
              · have k2 : decide ((k : Int) < (vn : Int)) = true := by simp; omega
                have k3 : (0 : Int) ≤ (k : Int) := by omega
                have k4 : (k : Int) < (vn : Int) := by omega
                obtain ⟨g2, hg2, c1⟩ := HRow.out k hlt
                obtain rfl : g = g2 := (Addr.mk.inj (Option.some.inj hg2)).1
                have c2 := HNs.out k hlt
                have d1 := (hb.cell (p := ⟨g, k, none⟩) (cell_lt c1)).trans c1
                have d2 := (hb.cell (p := ⟨gs, k, none⟩) (cell_lt c2)).trans c2
                unfold encP at d1 d2
                generalize kid (na + k) = x at *
                have q := fun V : World => neq_same V x
                clear c1 c2 hg2 q1 q2
                go_wp2_with fail
                go_quiet (fail)
                go_wp2_with fail
                go_roundw
                case rel => exact ⟨k + 1, by omega, by go_num, ⟨hb.os, hb.tape, hb.output, hb.size, hb.block⟩⟩
                case measure => simp [intOf]; omega
              · obtain rfl : vn = k := by omega
                have k2 : decide ((vn : Int) < (vn : Int)) = false := by simp
                have gmr := (hb.block bm (Array.getElem?_eq_some_iff.1 HGm.out).1).trans HGm.out
                have gir := (hb.block ib (Array.getElem?_eq_some_iff.1 HIb.out.1).1).trans HIb.out.1
                have q5 := (hb.cell (p := ⟨eb, 3, none⟩) (cell_lt HIb.out.2)).trans HIb.out.2
                have p2 : (Builtin.len_ #[49] 3 #[.map (some bm)]).run Ybad.prog wr = .ok (.int .i64 1) wr := by rw [len49 gmr, hes]; rfl
                have q3 := lookup54_one (w := wr) pb nb ⟨#[]⟩ (.map (some bm)) gir
                unfold ik at q3
                have q4 : (Builtin.len_ #[54] 3 #[.map (some ib)]).run Ybad.prog wr = .ok (.int .i64 1) wr := len54 gir
                have HGr : Hid (wr.heap[bm]? = some (.map es clm) ∧ wr.heap[ib]? = some (.map #[{ key := ik pb nb none ⟨#[]⟩, val := .map (some bm), born := cl }] (cl + 1))) := ⟨gmr, gir⟩
                have HBr : Hid (Below w.heap.size w wr) := HBel.out.trans (hb.mono HBel.out.size)
                clear gmr gir hb q1 q2
                go_wp2_with (go_at_call 7; refine (index_hit eb ib (cl + 1) cl pb nb bm _ q5 HGr.out.2).mono ?_; rintro e W2 ⟨rfl, hb2⟩; have g2 := (hb2.block bm (Array.getElem?_eq_some_iff.1 HGr.out.1).1).trans HGr.out.1; have r1 := HLk.out W2 g2; have r2 := len49 g2; rw [hes] at r2; clear g2)
                go_ret
                exact ⟨rfl, HBr.out.trans (hb2.mono HBr.out.size)⟩

set_option maxRecDepth 100000 in
set_option maxHeartbeats 1000000 in
/-- LawS2361AAll, whatever comes in. -/
theorem law_all_any (o : Int) (va : Option Addr) (vn vc : Nat) (S : Nat → ByteArray) (w : World) (h0 : 0 ≤ o) (h1 : o < 256) (hS : Strs w va vn S) :
    Calls Ybad.prog 3 #[.int .u8 o, .slice va vn vc] w fun e w' => e = .returned (.bool true) ∧ Below w.heap.size w w' := by
  by_cases hv : vn ≤ 1024
  · exact law_all o va vn vc S w h0 h1 hv hS
  · have t1 : decide ((1024 : Int) < vn) = true := by simp; omega
    go_enter Ybad.func3, Ybad.ntmps3
    go_wp2_with fail
    go_ret
    exact ⟨rfl, Below.refl _ _⟩
end Go.Proofs.YbulkavwiDoor
