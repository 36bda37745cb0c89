/-
  The walk of (*node).routesFor.
-/
import Derived.Test.YbulkavwwDoorClone
import Derived.Defers
namespace Go.Proofs.YbulkavwwDoor
open Go.RowKit Go.MuLone
attribute [local go_sem ↓] Go.wp_at_zero Go.wp_at_succ

theorem gb_set (w : World) (b o : Nat) (v : Value) : w.grownBy (w.setCell ⟨b, o, none⟩ v) (some b) :=
  ⟨rfl, rfl, rfl, by simp [World.setCell], fun k _ hne => Below.heap_setCell _ _ _ _ (fun e => hne (by rw [e]))⟩
theorem gb_below {w w' : World} (h : Below w.heap.size w w') (row : Option Nat) : w.grownBy w' row :=
  ⟨h.os, h.tape, h.output, h.size, fun k hk _ => h.block k hk⟩
theorem gb_trans {a b c : World} {row : Option Nat} (h : a.grownBy b row) (k : b.grownBy c row) : a.grownBy c row :=
  ⟨k.os.trans h.os, k.tape.trans h.tape, k.output.trans h.output, Nat.le_trans h.size k.size, fun i hi hne => (k.block i (Nat.lt_of_lt_of_le hi h.size) hne).trans (h.block i hi hne)⟩

theorem setCell_size (w : World) (a : Addr) (v : Value) : (w.setCell a v).heap.size = w.heap.size := by simp [World.setCell]

/-- What changes leaves: a channel, the one that was there if there was one; all else of the block as it was. -/
def Chd (b o : Nat) (ch0 : Option Nat) (w : World) (e : Ending) (w' : World) : Prop :=
  ∃ ch, e = .returned (.chan (some ch)) ∧ w'.cell? ⟨b, o + 4, none⟩ = some (.chan (some ch)) ∧ (∀ c0, ch0 = some c0 → ch = c0) ∧ (∀ j, j ≠ o + 4 → w'.cell? ⟨b, j, none⟩ = w.cell? ⟨b, j, none⟩) ∧
    (∀ j, w'.frozen? ⟨b, j, none⟩ = w.frozen? ⟨b, j, none⟩) ∧ w.grownBy w' (some b)

theorem changes_gen (b o : Nat) (ch0 : Option Nat) (w : World) (h : w.cell? ⟨b, o + 4, none⟩ = some (.chan ch0)) (hf : w.frozen? ⟨b, o + 4, none⟩ = false) :
    Calls Ybad.prog 10 #[.pointer (some ⟨b, o, none⟩)] w (Chd b o ch0 w) := by
  cases ch0 with
  | some c =>
    refine (changes_some b o c w h).mono ?_
    rintro e w' ⟨rfl, rfl⟩
    exact ⟨c, rfl, h, fun c0 hc => Option.some.inj hc, fun _ _ => rfl, fun _ => rfl, World.grownBy.refl _ _⟩
  | none =>
    refine (changes_none b o w h hf).mono ?_
    rintro e w' ⟨rfl, rfl⟩
    have hb := cell_lt h
    have hb2 : b < (w.setCell ⟨b, o + 4, none⟩ (.chan (some w.heap.size))).heap.size := by rw [setCell_size]; exact hb
    refine ⟨w.heap.size, rfl, ?_, (fun c0 hc => by cases hc), fun j hj => ?_, fun j => ?_, gb_trans (gb_set w b _ _) (World.grownBy_alloc _ _ _)⟩
    · rw [World.cell?_alloc_lt _ _ _ hb2]
      exact World.cell?_setCell_same _ _ _ h
    · rw [World.cell?_alloc_lt _ _ _ hb2]
      exact World.cell?_setCell_other _ _ _ _ (fun hh => hj (Addr.mk.inj hh).2.1.symm)
    · rw [((Below.refl _ _).alloc (Nat.le_refl _) _ : Below _ (w.setCell ⟨b, o + 4, none⟩ (.chan (some w.heap.size))) _).frozen (p := ⟨b, j, none⟩) hb2, World.frozen?_setCell]

set_option maxRecDepth 100000 in
set_option maxHeartbeats 2000000 in
theorem routes_dec (b rs n c : Nat) (ch0 : Option Nat) (A B : Nat → Int) (S : Nat → ByteArray) (id : ByteArray) (w : World) (hn : n ≤ 1024)
    (c2 : w.cell? ⟨b, 2, none⟩ = some (.int .i32 0)) (f2 : w.frozen? ⟨b, 2, none⟩ = false) (c9 : w.cell? ⟨b, 9, none⟩ = some (.int .i64 ((n : Int) - 1))) (c10 : w.cell? ⟨b, 10, none⟩ = some (.slice (some ⟨rs, 0, none⟩) n c))
    (c11 : w.cell? ⟨b, 11, none⟩ = some (.chan ch0)) (f11 : w.frozen? ⟨b, 11, none⟩ = false) (h3 : Fill3 w rs n n A B S) (hrs : rs < w.heap.size) (hne : rs ≠ b) (hu : Unr w) (hb0 : b ≠ 0) :
    Calls Ybad.prog 6 #[.pointer (some ⟨b, 0, none⟩), .string id] w fun e w' => ∃ ch, e = .returned (.tuple #[.slice (some ⟨w.heap.size, 0, none⟩) n n, .chan (some ch)]) ∧
      Pairs w' (some ⟨w.heap.size, 0, none⟩) n (stA id A S) (stB id B S) ∧ (∀ c0, ch0 = some c0 → ch = c0) ∧ w'.cell? ⟨b, 11, none⟩ = some (.chan (some ch)) ∧ w.grownBy w' (some b) := by
  have hb := cell_lt c2
  have eq := fun (w : World) (a : Option Addr) (n c : Nat) => Lib.run_eql_slice_nil (P := Ybad.prog) w 41 56 a n c 0 0 Ybad.underlying41
  have s3 := h3.other ⟨b, 2, none⟩ (Ne.symm hne) (.int .i32 1)
  have su : Unr (w.setCell ⟨b, 2, none⟩ (.int .i32 1)) := ⟨(World.cell?_setCell_other _ _ _ _ (fun hh => hb0 (Addr.mk.inj hh).1)).trans hu.1, (World.cell?_setCell_other _ _ _ _ (fun hh => hb0 (Addr.mk.inj hh).1)).trans hu.2⟩
  have HS : Hid (∀ W, Below w.heap.size (w.setCell ⟨b, 2, none⟩ (.int .i32 1)) W → W.heap.size = w.heap.size → Calls Ybad.prog 11 #[.slice (some ⟨rs, 0, none⟩) n c, .int .i64 ((n : Int) - 1), .string id] W fun e w' =>
      e = .returned (.slice (some ⟨W.heap.size, 0, none⟩) n n) ∧ Fill w' W.heap.size n n (stA id A S) (stB id B S) ∧ W.heap.size < w'.heap.size ∧ Below W.heap.size W w') := by
    intro W hW hsz
    have hW' : Below (w.setCell ⟨b, 2, none⟩ (.int .i32 1)).heap.size (w.setCell ⟨b, 2, none⟩ (.int .i32 1)) W := by rw [setCell_size]; exact hW
    exact stated_any rs n c A B S id W hn (by omega) (s3.below (by rw [setCell_size]; exact hrs) hW') (su.below hW')
  clear h3 hu s3 su
  go_enter_defers Ybad.func6, Ybad.ntmps6
  go_wp2_with (go_at_call 8; refine (lock_free Ybad.muLib ⟨b, 2, none⟩ _ c2 f2).mono ?_; rintro e w' ⟨rfl, rfl⟩)
  have hdr : Below w.heap.size (w.setCell ⟨b, 2, none⟩ (.int .i32 1)) (w.setCell ⟨b, 2, none⟩ (.int .i32 1)).drew := (Below.refl _ _).drew
  have hsd : (w.setCell ⟨b, 2, none⟩ (.int .i32 1)).drew.heap.size = w.heap.size := setCell_size _ _ _
  have d9 : (w.setCell ⟨b, 2, none⟩ (.int .i32 1)).cell? ⟨b, 9, none⟩ = some (.int .i64 ((n : Int) - 1)) := (World.cell?_setCell_other _ _ _ _ (by simp)).trans c9
  have d10 : (w.setCell ⟨b, 2, none⟩ (.int .i32 1)).cell? ⟨b, 10, none⟩ = some (.slice (some ⟨rs, 0, none⟩) n c) := (World.cell?_setCell_other _ _ _ _ (by simp)).trans c10
  have d11 : (w.setCell ⟨b, 2, none⟩ (.int .i32 1)).cell? ⟨b, 11, none⟩ = some (.chan ch0) := (World.cell?_setCell_other _ _ _ _ (by simp)).trans c11
  have g11 : (w.setCell ⟨b, 2, none⟩ (.int .i32 1)).frozen? ⟨b, 11, none⟩ = false := by rw [World.frozen?_setCell]; exact f11
  go_region_held3 (fun w' => w'.cell? ⟨b, 9, none⟩ = some (.int .i64 ((n : Int) - 1)) ∧ w'.cell? ⟨b, 10, none⟩ = some (.slice (some ⟨rs, 0, none⟩) n c)) (first | exact ⟨d9, d10⟩ | exact ⟨(hc2 9).trans d9, (hc2 10).trans d10⟩ | exact ⟨(hj3 9 (by decide)).trans ((hc2 9).trans d9), (hj3 10 (by decide)).trans ((hc2 10).trans d10)⟩)
    (first | (go_at_call 11; refine (HS.out _ hdr hsd).mono ?_; rintro e w2 ⟨rfl, hF, hz, hbl⟩; rw [hsd] at hF hz hbl ⊢; have hc2 : ∀ o, w2.cell? ⟨b, o, none⟩ = (w.setCell ⟨b, 2, none⟩ (.int .i32 1)).cell? ⟨b, o, none⟩ := fun o => hbl.cell (p := ⟨b, o, none⟩) hb; have hf2 : ∀ o, w2.frozen? ⟨b, o, none⟩ = (w.setCell ⟨b, 2, none⟩ (.int .i32 1)).frozen? ⟨b, o, none⟩ := fun o => hbl.frozen (p := ⟨b, o, none⟩) hb)
           | (go_at_call 10; refine (changes_gen b 7 ch0 _ ((hc2 11).trans d11) ((hf2 11).trans g11)).mono ?_; rintro e w3 ⟨ch, rfl, h11, hch, hj3, hf3, hg3⟩))
  go_wp2_with fail
  refine leaves_cons (f := 9) (args := #[.pointer (some ⟨b, 2, none⟩)]) (by simp) (by simp [go_sem]) ?_
  refine (unlock_deferred Ybad.muLib ⟨b, 2, none⟩ .returning _ ?_ ?_).mono ?_
  · exact (hj3 2 (by decide)).trans ((hc2 2).trans (World.cell?_setCell_same _ _ _ c2))
  · rw [hf3, hf2, World.frozen?_setCell]
    exact f2
  rintro e u' w'' ⟨rfl, rfl, rfl⟩
  have hpp : Pairs w2 (some ⟨w.heap.size, 0, none⟩) n (stA id A S) (stB id B S) := hF.pairs hz
  have hne2 : b ≠ w.heap.size := by omega
  have hp3 : Pairs (w3.setCell ⟨b, 2, none⟩ (.int .i32 0)) (some ⟨w.heap.size, 0, none⟩) n (stA id A S) (stB id B S) := by
    intro k hk
    obtain ⟨g, e, hg, e0, e1⟩ := hpp k hk
    cases e
    have hg2 : w2.grownBy (w3.setCell ⟨b, 2, none⟩ (.int .i32 0)) (some b) := gb_trans hg3 (gb_set _ b 2 _)
    exact ⟨_, rfl, Nat.lt_of_lt_of_le hg hg2.size, hg2.cell e0 (fun h => hne2 (Option.some.inj h).symm), hg2.cell e1 (fun h => hne2 (Option.some.inj h).symm)⟩
  refine ⟨_, results_tmp2 rfl _ _ _, ch, rfl, hp3, hch, (World.cell?_setCell_other _ _ _ _ (by simp)).trans h11, ?_⟩
  exact gb_trans (gb_set w b 2 _) (gb_trans (gb_below (by rw [setCell_size]; exact hdr.trans hbl) _) (gb_trans hg3 (gb_set _ b 2 _)))

set_option maxRecDepth 100000 in
set_option maxHeartbeats 2000000 in
theorem routes_und (b : Nat) (ch0 : Option Nat) (id : ByteArray) (w : World)
    (c2 : w.cell? ⟨b, 2, none⟩ = some (.int .i32 0)) (f2 : w.frozen? ⟨b, 2, none⟩ = false) (c10 : w.cell? ⟨b, 10, none⟩ = some (.slice none 0 0))
    (c11 : w.cell? ⟨b, 11, none⟩ = some (.chan ch0)) (f11 : w.frozen? ⟨b, 11, none⟩ = false) :
    Calls Ybad.prog 6 #[.pointer (some ⟨b, 0, none⟩), .string id] w fun e w' => ∃ ch, e = .returned (.tuple #[.slice none 0 0, .chan (some ch)]) ∧
      (∀ c0, ch0 = some c0 → ch = c0) ∧ w'.cell? ⟨b, 11, none⟩ = some (.chan (some ch)) ∧ w.grownBy w' (some b) := by
  have eq := fun (w : World) (a : Option Addr) (n c : Nat) => Lib.run_eql_slice_nil (P := Ybad.prog) w 41 56 a n c 0 0 Ybad.underlying41
  have d11 : (w.setCell ⟨b, 2, none⟩ (.int .i32 1)).cell? ⟨b, 11, none⟩ = some (.chan ch0) := (World.cell?_setCell_other _ _ _ _ (by simp)).trans c11
  have g11 : (w.setCell ⟨b, 2, none⟩ (.int .i32 1)).frozen? ⟨b, 11, none⟩ = false := by rw [World.frozen?_setCell]; exact f11
  go_enter_defers Ybad.func6, Ybad.ntmps6
  go_wp2_with (go_at_call 8; refine (lock_free Ybad.muLib ⟨b, 2, none⟩ _ c2 f2).mono ?_; rintro e w' ⟨rfl, rfl⟩)
  refine (changes_gen b 7 ch0 _ d11 g11).mono ?_
  rintro e w3 ⟨ch, rfl, h11, hch, hj3, hf3, hg3⟩
  go_wp2_with fail
  refine leaves_cons (f := 9) (args := #[.pointer (some ⟨b, 2, none⟩)]) (by simp) (by simp [go_sem]) ?_
  refine (unlock_deferred Ybad.muLib ⟨b, 2, none⟩ .returning _ ?_ ?_).mono ?_
  · exact (hj3 2 (by decide)).trans (World.cell?_setCell_same _ _ _ c2)
  · rw [hf3, World.frozen?_setCell]
    exact f2
  rintro e u' w'' ⟨rfl, rfl, rfl⟩
  refine ⟨_, results_tmp2 rfl _ _ _, ch, rfl, hch, (World.cell?_setCell_other _ _ _ _ (by simp)).trans h11, ?_⟩
  exact gb_trans (gb_set w b 2 _) (gb_trans hg3 (gb_set _ b 2 _))

end Go.Proofs.YbulkavwwDoor
