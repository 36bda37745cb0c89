/-
  Walks of rotateLeft and rotateRight.
-/
import Derived.Test.YbulkavtcNode
namespace Go.Proofs.Ybulkavtc
open Go.RowKit
attribute [local go_sem ↓] Go.wp_at_zero Go.wp_at_succ

theorem bcell {W w1 : World} (hb : Below W.heap.size W w1) : (∀ b o, b < W.heap.size → w1.cell? ⟨b, o, none⟩ = W.cell? ⟨b, o, none⟩) ∧ (∀ b o, b < W.heap.size → w1.frozen? ⟨b, o, none⟩ = W.frozen? ⟨b, o, none⟩) :=
  ⟨fun b o h => hb.cell (p := ⟨b, o, none⟩) h, fun b o h => hb.frozen (p := ⟨b, o, none⟩) h⟩

theorem IsNode.below {w w' : World} {b : Nat} {s e : ByteArray} {l r : Option Addr} {h n : Nat} (i : IsNode w b s e l r h n) (hb : Below w.heap.size w w') : IsNode w' b s e l r h n := by
  have hk := cell_lt i.1
  obtain ⟨hc, -⟩ := bcell hb
  unfold IsNode at *
  simp only [hc b _ hk]
  exact i

theorem IsNode.top {w : World} {b : Nat} {s e : ByteArray} {l r : Option Addr} {h n : Nat} (i : IsNode w b s e l r h n) : Top w (some ⟨b, 0, none⟩) h n :=
  .inr ⟨b, rfl, i.2.2.2.2.1, i.2.2.2.2.2⟩

set_option maxRecDepth 100000 in
set_option maxHeartbeats 1000000 in
theorem rotateLeft_any (b c : Nat) (s e s' e' : ByteArray) (l cl cr : Option Addr) (ht nt hc nc hl nl hcl ncl hcr ncr : Nat) (w : World)
    (ib : IsNode w b s e l (some ⟨c, 0, none⟩) ht nt) (ic : IsNode w c s' e' cl cr hc nc)
    (tl : Top w l hl nl) (tcl : Top w cl hcl ncl) (tcr : Top w cr hcr ncr) (bd : hl ≤ 200 ∧ hcl ≤ 200 ∧ hcr ≤ 200 ∧ nl ≤ 200 ∧ ncl ≤ 200 ∧ ncr ≤ 200) :
    Calls Yba.prog 17 #[.pointer (some ⟨b, 0, none⟩)] w fun x w' => ∃ d d', x = .returned (.pointer (some ⟨d', 0, none⟩)) ∧ w.heap.size ≤ d ∧ w.heap.size ≤ d' ∧
      IsNode w' d s e l cl (1 + max hl hcl) (nl + 1 + ncl) ∧ IsNode w' d' s' e' (some ⟨d, 0, none⟩) cr (1 + max (1 + max hl hcl) hcr) (nl + 1 + ncl + 1 + ncr) ∧ Below w.heap.size w w' := by
  have lb := cell_lt ib.1
  have lc := cell_lt ic.1
  obtain ⟨b0, b1, b2, b3, -, -⟩ := ib
  obtain ⟨c0, c1, c2, c3, -, -⟩ := ic
  obtain ⟨d1, d2, d3, d4, d5, d6⟩ := bd
  have bw : Below w.heap.size w w.drew := (Below.refl _ _).drew
  have tl' := tl.below bw
  have tcl' := tcl.below bw
  have tcr' := tcr.below bw
  go_enter Yba.func17, Yba.ntmps17
  go_wp2
  go_region_held3 (fun w' => w'.cell? ⟨b, 0, none⟩ = some (.string s) ∧ w'.cell? ⟨b, 1, none⟩ = some (.string e) ∧ w'.cell? ⟨b, 2, none⟩ = some (.pointer l) ∧ w'.cell? ⟨b, 3, none⟩ = some (.pointer (some ⟨c, 0, none⟩)) ∧
      w'.cell? ⟨c, 0, none⟩ = some (.string s') ∧ w'.cell? ⟨c, 1, none⟩ = some (.string e') ∧ w'.cell? ⟨c, 2, none⟩ = some (.pointer cl) ∧ w'.cell? ⟨c, 3, none⟩ = some (.pointer cr)) (go_keep)
    (first | (go_at_call_of 12 (Value.pointer l); refine (node_any l cl s e hl nl hcl ncl _ tl' tcl' (by omega) (by omega) (by omega) (by omega)).mono ?_; rintro x w1 ⟨d, rfl, hd1, hd2, hn1, hb1⟩; have hc1 : ∀ b o, b < w.heap.size → w1.cell? ⟨b, o, none⟩ = w.cell? ⟨b, o, none⟩ := (bcell hb1).1)
           | (go_at_call_of 12 (Value.pointer cr); refine (node_any (some ⟨d, 0, none⟩) cr s' e' (1 + max hl hcl) (nl + 1 + ncl) hcr ncr _ hn1.top (tcr'.below hb1) (by omega) (by omega) (by omega) (by omega)).mono ?_; rintro x w2 ⟨d', rfl, hd3, hd4, hn2, hb2⟩; have hz1 : w.heap.size ≤ w1.heap.size := hb1.size; have hc2 : ∀ b o, b < w.heap.size → w2.cell? ⟨b, o, none⟩ = w.cell? ⟨b, o, none⟩ := fun b o h => ((bcell hb2).1 b o (by omega)).trans (hc1 b o h)))
  go_wp2
  go_ret
  exact ⟨d, d', rfl, hd1, Nat.le_trans hz1 hd3, hn1.below hb2, hn2, (bw.trans hb1).trans (hb2.mono hz1)⟩

set_option maxRecDepth 100000 in
set_option maxHeartbeats 1000000 in
theorem rotateRight_any (b c : Nat) (s e s' e' : ByteArray) (r cl cr : Option Addr) (ht nt hc nc hr nr hcl ncl hcr ncr : Nat) (w : World)
    (ib : IsNode w b s e (some ⟨c, 0, none⟩) r ht nt) (ic : IsNode w c s' e' cl cr hc nc)
    (tr : Top w r hr nr) (tcl : Top w cl hcl ncl) (tcr : Top w cr hcr ncr) (bd : hr ≤ 200 ∧ hcl ≤ 200 ∧ hcr ≤ 200 ∧ nr ≤ 200 ∧ ncl ≤ 200 ∧ ncr ≤ 200) :
    Calls Yba.prog 18 #[.pointer (some ⟨b, 0, none⟩)] w fun x w' => ∃ d d', x = .returned (.pointer (some ⟨d', 0, none⟩)) ∧ w.heap.size ≤ d ∧ w.heap.size ≤ d' ∧
      IsNode w' d s e cr r (1 + max hcr hr) (ncr + 1 + nr) ∧ IsNode w' d' s' e' cl (some ⟨d, 0, none⟩) (1 + max hcl (1 + max hcr hr)) (ncl + 1 + (ncr + 1 + nr)) ∧ Below w.heap.size w w' := by
  have lb := cell_lt ib.1
  have lc := cell_lt ic.1
  obtain ⟨b0, b1, b2, b3, -, -⟩ := ib
  obtain ⟨c0, c1, c2, c3, -, -⟩ := ic
  obtain ⟨d1, d2, d3, d4, d5, d6⟩ := bd
  have bw : Below w.heap.size w w.drew := (Below.refl _ _).drew
  have tr' := tr.below bw
  have tcl' := tcl.below bw
  have tcr' := tcr.below bw
  go_enter Yba.func18, Yba.ntmps18
  go_wp2
  go_region_held3 (fun w' => w'.cell? ⟨b, 0, none⟩ = some (.string s) ∧ w'.cell? ⟨b, 1, none⟩ = some (.string e) ∧ w'.cell? ⟨b, 2, none⟩ = some (.pointer (some ⟨c, 0, none⟩)) ∧ w'.cell? ⟨b, 3, none⟩ = some (.pointer r) ∧
      w'.cell? ⟨c, 0, none⟩ = some (.string s') ∧ w'.cell? ⟨c, 1, none⟩ = some (.string e') ∧ w'.cell? ⟨c, 2, none⟩ = some (.pointer cl) ∧ w'.cell? ⟨c, 3, none⟩ = some (.pointer cr)) (go_keep)
    (first | (go_at_call_of 12 (Value.pointer r); refine (node_any cr r s e hcr ncr hr nr _ tcr' tr' (by omega) (by omega) (by omega) (by omega)).mono ?_; rintro x w1 ⟨d, rfl, hd1, hd2, hn1, hb1⟩; have hc1 : ∀ b o, b < w.heap.size → w1.cell? ⟨b, o, none⟩ = w.cell? ⟨b, o, none⟩ := (bcell hb1).1)
           | (go_at_call_of 12 (Value.pointer cl); refine (node_any cl (some ⟨d, 0, none⟩) s' e' hcl ncl (1 + max hcr hr) (ncr + 1 + nr) _ (tcl'.below hb1) hn1.top (by omega) (by omega) (by omega) (by omega)).mono ?_; rintro x w2 ⟨d', rfl, hd3, hd4, hn2, hb2⟩; have hz1 : w.heap.size ≤ w1.heap.size := hb1.size; have hc2 : ∀ b o, b < w.heap.size → w2.cell? ⟨b, o, none⟩ = w.cell? ⟨b, o, none⟩ := fun b o h => ((bcell hb2).1 b o (by omega)).trans (hc1 b o h)))
  go_wp2
  go_ret
  exact ⟨d, d', rfl, hd1, Nat.le_trans hz1 hd3, hn1.below hb2, hn2, (bw.trans hb1).trans (hb2.mono hz1)⟩

end Go.Proofs.Ybulkavtc
