/-
  The walk of insert.
-/
import Derived.Test.YbulkavtcJoin
import Derived.Test.YbulkavtcList
namespace Go.Proofs.Ybulkavtc
open Go.RowKit
attribute [local go_sem ↓] Go.wp_at_zero Go.wp_at_succ

/-- What insert's caller is told. -/
def Inserted (i B h : Nat) (ks : List Nat) (w : World) (x : Ending) (w' : World) : Prop :=
  ∃ p' h', x = .returned (.pointer p') ∧ AV w' B h' p' (insl i ks) ∧ (h' = h ∨ h' = h + 1) ∧ Below w.heap.size w w'

set_option maxRecDepth 100000 in
set_option maxHeartbeats 1000000 in
theorem insert_nil (i B : Nat) (w : World) (hB : B ≤ w.heap.size) :
    Calls Yba.prog 9 #[.pointer none, .agg #[.string (sB i), .string (eB i)]] w (Inserted i B 0 [] w) := by
  have bw := below_box w (.cells #[.string (sB i), .string (eB i)] 31)
  go_enter Yba.func9, Yba.ntmps9
  go_wp2_with fail
  refine (node_any none none (sB i) (eB i) 0 0 0 0 _ (.inl ⟨rfl, rfl, rfl⟩) (.inl ⟨rfl, rfl, rfl⟩) (by omega) (by omega) (by omega) (by omega)).mono ?_
  rintro x w' ⟨d, rfl, g1, g2, hn, hbel⟩
  go_wp2_with fail
  go_ret
  have g1' : w.heap.size ≤ d := Nat.le_trans (by simp) g1
  exact ⟨_, _, rfl, AV.mk (lks := []) (rks := []) hn (by omega) (AV.nil _ _) (AV.nil _ _) rfl rfl (by omega) (by omega), .inr rfl, bw.trans (hbel.mono (by simp))⟩

set_option maxRecDepth 100000 in
set_option maxHeartbeats 1000000 in
theorem insert_lt (i B b j h hl hr : Nat) (l r : Option Addr) (lks rks : List Nat) (w : World) (hB : B ≤ w.heap.size)
    (ib : IsNode w b (sB j) (eB j) l r h (lks ++ j :: rks).length) (tl : AV w B hl l lks) (tr : AV w B hr r rks) (eh : Hid (h = 1 + max hl hr)) (c1 : hl ≤ hr + 1) (c2 : hr ≤ hl + 1)
    (srt : (lks ++ j :: rks).Pairwise (· < ·)) (hi : i < 85) (hj : j < 85) (hn : (lks ++ j :: rks).length ≤ 86) (hij : i < j)
    (ih : Hid (∀ w, B ≤ w.heap.size → AV w B hl l lks → Calls Yba.prog 9 #[.pointer l, .agg #[.string (sB i), .string (eB i)]] w (Inserted i B hl lks w))) :
    Calls Yba.prog 9 #[.pointer (some ⟨b, 0, none⟩), .agg #[.string (sB i), .string (eB i)]] w (Inserted i B h (lks ++ j :: rks) w) := by
  have lb := cell_lt ib.1
  obtain ⟨b0, b1, b2, b3, -, -⟩ := ib
  have bw := below_box w (.cells #[.string (sB i), .string (eB i)] 31)
  have al := tl.below bw.drew.drew
  have ar := tr.below bw.drew.drew
  have hl1 := insl_length i lks
  have hls : Op.bytesLess (sB i).toList (sB j).toList = true := by rw [less_sB i j hi hj]; simpa using hij
  have HE : Hid (insl i (lks ++ j :: rks) = insl i lks ++ j :: rks) := insl_left i j lks rks srt hij
  simp only [List.length_append, List.length_cons] at hn
  have hB' : B ≤ (w.alloc (.cells #[.string (sB i), .string (eB i)] 31)).drew.drew.heap.size := Nat.le_trans hB bw.size
  clear srt tl tr
  go_enter Yba.func9, Yba.ntmps9
  go_wp2_with fail
  go_region_held3 (fun w' => w'.cell? ⟨b, 0, none⟩ = some (.string (sB j)) ∧ w'.cell? ⟨w.heap.size, 0, none⟩ = some (.string (sB i))) (first | go_keep) (fail)
  go_wp2_with fail
  go_region_held3 (fun w' => w'.cell? ⟨b, 0, none⟩ = some (.string (sB j)) ∧ w'.cell? ⟨b, 1, none⟩ = some (.string (eB j)) ∧ w'.cell? ⟨b, 2, none⟩ = some (.pointer l) ∧ w'.cell? ⟨b, 3, none⟩ = some (.pointer r) ∧
      w'.cell? ⟨w.heap.size, 0, none⟩ = some (.string (sB i)) ∧ w'.cell? ⟨w.heap.size, 1, none⟩ = some (.string (eB i))) (first | go_keep)
    (first | (go_at_call 9; refine (ih.out _ hB' al).mono ?_; rintro x w1 ⟨p', h', rfl, ha, hh, hbel⟩; have hz1 : w.heap.size < w1.heap.size := Nat.lt_of_lt_of_le (by simp) hbel.size; have hc1 : ∀ b o, b < w.heap.size → w1.cell? ⟨b, o, none⟩ = w.cell? ⟨b, o, none⟩ := (bcell (bw.drew.drew.trans (hbel.mono (by simp)))).1; have hs1 : w1.cell? ⟨w.heap.size, 0, none⟩ = some (.string (sB i)) := ((bcell hbel).1 _ _ (by simp)).trans (by simp [go_sem]); have hs2 : w1.cell? ⟨w.heap.size, 1, none⟩ = some (.string (eB i)) := ((bcell hbel).1 _ _ (by simp)).trans (by simp [go_sem]))
           | (go_at_call 13; refine (join_any j B h' hr p' r (insl i lks) rks _ ha (ar.below hbel) (Nat.le_trans hB' hbel.size) (by omega) (by omega) (by omega) (by omega)).mono ?_; rintro x w2 ⟨p2, h2, rfl, ha2, hh2, hh3, hbel2⟩; have hc2 : ∀ b o, b < w1.heap.size → w2.cell? ⟨b, o, none⟩ = w1.cell? ⟨b, o, none⟩ := (bcell hbel2).1; have lb2 : b < w1.heap.size := by omega))
  go_wp2_with fail
  go_ret
  refine ⟨p2, h2, rfl, by rw [HE.out]; exact ha2, ?_, (bw.drew.drew.trans (hbel.mono (by simp))).trans (hbel2.mono (by omega))⟩
  have := eh.out
  omega

set_option maxRecDepth 100000 in
set_option maxHeartbeats 1000000 in
theorem insert_gt (i B b j h hl hr : Nat) (l r : Option Addr) (lks rks : List Nat) (w : World) (hB : B ≤ w.heap.size)
    (ib : IsNode w b (sB j) (eB j) l r h (lks ++ j :: rks).length) (tl : AV w B hl l lks) (tr : AV w B hr r rks) (eh : Hid (h = 1 + max hl hr)) (c1 : hl ≤ hr + 1) (c2 : hr ≤ hl + 1)
    (srt : (lks ++ j :: rks).Pairwise (· < ·)) (hi : i < 85) (hj : j < 85) (hn : (lks ++ j :: rks).length ≤ 86) (hij : j < i)
    (ih : Hid (∀ w, B ≤ w.heap.size → AV w B hr r rks → Calls Yba.prog 9 #[.pointer r, .agg #[.string (sB i), .string (eB i)]] w (Inserted i B hr rks w))) :
    Calls Yba.prog 9 #[.pointer (some ⟨b, 0, none⟩), .agg #[.string (sB i), .string (eB i)]] w (Inserted i B h (lks ++ j :: rks) w) := by
  have lb := cell_lt ib.1
  obtain ⟨b0, b1, b2, b3, -, -⟩ := ib
  have bw := below_box w (.cells #[.string (sB i), .string (eB i)] 31)
  have al := tl.below bw.drew.drew
  have ar := tr.below bw.drew.drew
  have hl1 := insl_length i rks
  have hls : Op.bytesLess (sB i).toList (sB j).toList = false := by rw [less_sB i j hi hj]; simpa using Nat.le_of_lt hij
  have HE : Hid (insl i (lks ++ j :: rks) = lks ++ j :: insl i rks) := insl_right i j lks rks srt hij
  simp only [List.length_append, List.length_cons] at hn
  have hB' : B ≤ (w.alloc (.cells #[.string (sB i), .string (eB i)] 31)).drew.drew.heap.size := Nat.le_trans hB bw.size
  clear srt tl tr
  go_enter Yba.func9, Yba.ntmps9
  go_wp2_with fail
  go_region_held3 (fun w' => w'.cell? ⟨b, 0, none⟩ = some (.string (sB j)) ∧ w'.cell? ⟨w.heap.size, 0, none⟩ = some (.string (sB i))) (first | go_keep) (fail)
  go_wp2_with fail
  go_region_held3 (fun w' => w'.cell? ⟨b, 0, none⟩ = some (.string (sB j)) ∧ w'.cell? ⟨b, 1, none⟩ = some (.string (eB j)) ∧ w'.cell? ⟨b, 2, none⟩ = some (.pointer l) ∧ w'.cell? ⟨b, 3, none⟩ = some (.pointer r) ∧
      w'.cell? ⟨w.heap.size, 0, none⟩ = some (.string (sB i)) ∧ w'.cell? ⟨w.heap.size, 1, none⟩ = some (.string (eB i))) (first | go_keep)
    (first | (go_at_call 9; refine (ih.out _ hB' ar).mono ?_; rintro x w1 ⟨p', h', rfl, ha, hh, hbel⟩; have hz1 : w.heap.size < w1.heap.size := Nat.lt_of_lt_of_le (by simp) hbel.size; have hc1 : ∀ b o, b < w.heap.size → w1.cell? ⟨b, o, none⟩ = w.cell? ⟨b, o, none⟩ := (bcell (bw.drew.drew.trans (hbel.mono (by simp)))).1; have hs1 : w1.cell? ⟨w.heap.size, 0, none⟩ = some (.string (sB i)) := ((bcell hbel).1 _ _ (by simp)).trans (by simp [go_sem]); have hs2 : w1.cell? ⟨w.heap.size, 1, none⟩ = some (.string (eB i)) := ((bcell hbel).1 _ _ (by simp)).trans (by simp [go_sem]))
           | (go_at_call 13; refine (join_any j B hl h' l p' lks (insl i rks) _ (al.below hbel) ha (Nat.le_trans hB' hbel.size) (by omega) (by omega) (by omega) (by omega)).mono ?_; rintro x w2 ⟨p2, h2, rfl, ha2, hh2, hh3, hbel2⟩; have hc2 : ∀ b o, b < w1.heap.size → w2.cell? ⟨b, o, none⟩ = w1.cell? ⟨b, o, none⟩ := (bcell hbel2).1; have lb2 : b < w1.heap.size := by omega))
  go_wp2_with fail
  go_ret
  refine ⟨p2, h2, rfl, by rw [HE.out]; exact ha2, ?_, (bw.drew.drew.trans (hbel.mono (by simp))).trans (hbel2.mono (by omega))⟩
  have := eh.out
  omega

theorem insert_n (i B : Nat) (hi : i < 85) : ∀ (n h : Nat) (p : Option Addr) (ks : List Nat) (w : World), ks.length ≤ n → AV w B h p ks → B ≤ w.heap.size → ks.Pairwise (· < ·) → (∀ k ∈ ks, k < 85) → i ∉ ks → ks.length ≤ 86 →
    Calls Yba.prog 9 #[.pointer p, .agg #[.string (sB i), .string (eB i)]] w (Inserted i B h ks w)
  | 0, h, p, ks, w, h0, t, hB, _, _, _, _ => by
    rcases t.inv with ⟨rfl, rfl, rfl⟩ | ⟨b, j, l, r, hl, hr, lks, rks, rfl, e2, e3, t1, t2, rfl, eh, c1, c2⟩
    · exact insert_nil i B w hB
    · simp at h0
  | n + 1, h, p, ks, w, h0, t, hB, srt, lt, ni, hn => by
    rcases t.inv with ⟨rfl, rfl, rfl⟩ | ⟨b, j, l, r, hl, hr, lks, rks, rfl, e2, e3, t1, t2, rfl, eh, c1, c2⟩
    · exact insert_nil i B w hB
    · have sp := List.pairwise_append.1 srt
      have sr := (List.pairwise_cons.1 sp.2.1).2
      have hj : j < 85 := lt j (by simp)
      have ne : i ≠ j := fun e => ni (by simp [e])
      simp only [List.mem_append, List.mem_cons, not_or] at ni lt
      have hn' := hn
      simp only [List.length_append, List.length_cons] at hn' h0
      rcases Nat.lt_or_gt_of_ne ne with hij | hij
      · refine insert_lt i B b j h hl hr l r lks rks w hB e3 t1 t2 eh c1 c2 srt hi hj hn hij ?_
        intro w' hB' t'
        exact insert_n i B hi n hl l lks w' (by omega) t' hB' sp.1 (fun k hk => lt k (.inl hk)) ni.1 (by omega)
      · refine insert_gt i B b j h hl hr l r lks rks w hB e3 t1 t2 eh c1 c2 srt hi hj hn hij ?_
        intro w' hB' t'
        exact insert_n i B hi n hr r rks w' (by omega) t' hB' sr (fun k hk => lt k (.inr (.inr hk))) ni.2.2 (by omega)

theorem insert_any (i B h : Nat) (p : Option Addr) (ks : List Nat) (w : World) (hi : i < 85) (t : AV w B h p ks) (hB : B ≤ w.heap.size) (srt : ks.Pairwise (· < ·)) (lt : ∀ k ∈ ks, k < 85) (ni : i ∉ ks) (hn : ks.length ≤ 86) :
    Calls Yba.prog 9 #[.pointer p, .agg #[.string (sB i), .string (eB i)]] w (Inserted i B h ks w) := insert_n i B hi ks.length h p ks w (Nat.le_refl _) t hB srt lt ni hn

end Go.Proofs.Ybulkavtc
