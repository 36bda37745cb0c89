/-
  The state of the node that the law builds; routesFor off it.
-/
import Derived.Test.YbulkavwwDoorTake
namespace Go.Proofs.YbulkavwwDoor
open Go.RowKit

/-- The cells of a new node. -/
@[reducible] def nodeZero : Array Value := #[.pointer none, .string ⟨#[]⟩, .int .i32 0, .int .u32 0, .pointer none, .pointer none, .map none, .map none, .int .u16 0, .int .i64 0, .slice none 0 0, .chan none, .int .i32 0, .int .u32 0, .map none, .nilIface]
def nodeF (j : Nat) : Value := nodeZero.getD j (.bool false)

theorem node_new (w : World) (t : TypeId) : Cells (w.alloc (.cells nodeZero t)) w.heap.size 16 nodeF := fun j hj => by
  have hj2 : j < nodeZero.size := by unfold nodeZero; simpa using hj
  have hg : (w.alloc (.cells nodeZero t)).heap[w.heap.size]? = some (.cells nodeZero t (0, 0)) := by show (w.heap.push _)[w.heap.size]? = _; simp
  constructor
  · rw [cell_of_row _ _ j nodeZero t (0, 0) hg, Array.getElem?_eq_getElem hj2]
    unfold nodeF
    simp [Array.getD]
    intro h16
    exact absurd hj (by omega)
  · unfold World.frozen?; rw [hg]; simp

/-- A node as the router has it: its first cell, its lock, its channel, its reaches. -/
def Node (w : World) (b : Nat) (ch0 : Option Nat) (id : ByteArray) (m : Nat) (RA RB : Nat → Int) : Prop :=
  (w.cell? ⟨b, 0, none⟩ = some (.pointer none) ∧ w.cell? ⟨b, 2, none⟩ = some (.int .i32 0) ∧ w.frozen? ⟨b, 2, none⟩ = false ∧ w.cell? ⟨b, 11, none⟩ = some (.chan ch0) ∧ w.frozen? ⟨b, 11, none⟩ = false) ∧
  ((w.cell? ⟨b, 10, none⟩ = some (.slice none 0 0) ∧ m = 0) ∨
    ∃ rs c A B S, w.cell? ⟨b, 9, none⟩ = some (.int .i64 ((m : Int) - 1)) ∧ w.cell? ⟨b, 10, none⟩ = some (.slice (some ⟨rs, 0, none⟩) m c) ∧ Fill3 w rs m m A B S ∧ rs < w.heap.size ∧ rs ≠ b ∧ RA = stA id A S ∧ RB = stB id B S)

theorem Node.lt {w : World} {b : Nat} {ch0 : Option Nat} {id : ByteArray} {m : Nat} {RA RB : Nat → Int} (h : Node w b ch0 id m RA RB) : b < w.heap.size := cell_lt h.1.1

theorem Node.below {w w' : World} {b : Nat} {ch0 : Option Nat} {id : ByteArray} {m : Nat} {RA RB : Nat → Int} (h : Node w b ch0 id m RA RB) (hb : Below w.heap.size w w') : Node w' b ch0 id m RA RB := by
  have hlt := h.lt
  obtain ⟨⟨c0, c2, f2, c11, f11⟩, hr⟩ := h
  have hc := fun o => hb.cell (p := ⟨b, o, none⟩) hlt
  have hf := fun o => hb.frozen (p := ⟨b, o, none⟩) hlt
  refine ⟨⟨(hc 0).trans c0, (hc 2).trans c2, (hf 2).trans f2, (hc 11).trans c11, (hf 11).trans f11⟩, ?_⟩
  rcases hr with ⟨c10, rfl⟩ | ⟨rs, c, A, B, S, c9, c10, h3, hz, hne, e1, e2⟩
  · exact Or.inl ⟨(hc 10).trans c10, rfl⟩
  · exact Or.inr ⟨rs, c, A, B, S, (hc 9).trans c9, (hc 10).trans c10, h3.below hz hb, Nat.lt_of_lt_of_le hz hb.size, hne, e1, e2⟩

theorem Node.set {w : World} {b : Nat} {ch0 : Option Nat} {id : ByteArray} {m : Nat} {RA RB : Nat → Int} (h : Node w b ch0 id m RA RB) (ch : Option Nat) : Node (w.setCell ⟨b, 11, none⟩ (.chan ch)) b ch id m RA RB := by
  obtain ⟨⟨c0, c2, f2, c11, f11⟩, hr⟩ := h
  have hc : ∀ o, o ≠ 11 → (w.setCell ⟨b, 11, none⟩ (.chan ch)).cell? ⟨b, o, none⟩ = w.cell? ⟨b, o, none⟩ := fun o ho => World.cell?_setCell_other _ _ _ _ (fun hh => ho (Addr.mk.inj hh).2.1.symm)
  refine ⟨⟨(hc 0 (by decide)).trans c0, (hc 2 (by decide)).trans c2, by rw [World.frozen?_setCell]; exact f2, World.cell?_setCell_same _ _ _ c11, by rw [World.frozen?_setCell]; exact f11⟩, ?_⟩
  rcases hr with ⟨c10, rfl⟩ | ⟨rs, c, A, B, S, c9, c10, h3, hz, hne, e1, e2⟩
  · exact Or.inl ⟨(hc 10 (by decide)).trans c10, rfl⟩
  · exact Or.inr ⟨rs, c, A, B, S, (hc 9 (by decide)).trans c9, (hc 10 (by decide)).trans c10, h3.other ⟨b, 11, none⟩ (Ne.symm hne) _, by rw [setCell_size]; exact hz, hne, e1, e2⟩

theorem Node.routes {w : World} {b : Nat} {ch0 : Option Nat} {id : ByteArray} {m : Nat} {RA RB : Nat → Int} (h : Node w b ch0 id m RA RB) (hu : Unr w) (hb0 : b ≠ 0) (hm : m ≤ 1024) :
    Calls Ybad.prog 6 #[.pointer (some ⟨b, 0, none⟩), .string id] w.drew (Routed w b ch0 m RA RB) := by
  have hd : Below w.heap.size w w.drew := (Below.refl _ _).drew
  have h' := h.below hd
  have hu' := hu.below hd
  have hgd : w.grownBy w.drew (some b) := gb_below hd _
  obtain ⟨⟨c0, c2, f2, c11, f11⟩, hr⟩ := h'
  rcases hr with ⟨c10, rfl⟩ | ⟨rs, c, A, B, S, c9, c10, h3, hz, hne, rfl, rfl⟩
  · refine (routes_und b ch0 id w.drew c2 f2 c10 c11 f11).mono ?_
    rintro e w' ⟨ch, rfl, hch, h11, hg⟩
    exact ⟨none, 0, ch, rfl, fun k hk => by omega, (fun g hg => by cases hg), hch, h11, gb_trans hgd hg⟩
  · refine (routes_dec b rs m c ch0 A B S id w.drew hm c2 f2 c9 c10 c11 f11 h3 hz hne hu' hb0).mono ?_
    rintro e w' ⟨ch, rfl, hp, hch, h11, hg⟩
    exact ⟨_, m, ch, rfl, hp, (fun g hg => by cases hg; exact Nat.le_refl _), hch, h11, gb_trans hgd hg⟩

/-- The node and the routes that are expected. -/
def Mid (w : World) (b : Nat) (ch0 : Option Nat) (id : ByteArray) (m : Nat) (RA RB : Nat → Int) (ea : Option Addr) (ec : Nat) : Prop :=
  Node w b ch0 id m RA RB ∧ Pairs w ea m RA RB ∧ ((ea = none ∧ m = 0 ∧ ec = 0) ∨ ∃ g, ea = some ⟨g, 0, none⟩)

theorem Mid.below {w w' : World} {b : Nat} {ch0 : Option Nat} {id : ByteArray} {m : Nat} {RA RB : Nat → Int} {ea : Option Addr} {ec : Nat} (h : Mid w b ch0 id m RA RB ea ec) (hb : Below w.heap.size w w') : Mid w' b ch0 id m RA RB ea ec :=
  ⟨h.1.below hb, h.2.1.below hb, h.2.2⟩

theorem Mid.set {w : World} {b : Nat} {ch0 : Option Nat} {id : ByteArray} {m : Nat} {RA RB : Nat → Int} {ea : Option Addr} {ec : Nat} (h : Mid w b ch0 id m RA RB ea ec) (ch : Option Nat) : Mid (w.setCell ⟨b, 11, none⟩ (.chan ch)) b ch id m RA RB ea ec :=
  ⟨h.1.set ch, h.2.1.grown' (gb_set _ _ _ _) h.1.1.1 (by simp), h.2.2⟩

theorem Mid.clone {w : World} {b : Nat} {ch0 : Option Nat} {id : ByteArray} {m : Nat} {RA RB : Nat → Int} {ea : Option Addr} {ec : Nat} (h : Mid w b ch0 id m RA RB ea ec) (hm : m ≤ 1024) :
    Calls Ybad.prog 4 #[.slice ea m ec] w fun e w' => ∃ a' c', e = .returned (.slice a' m c') ∧ Pairs w' a' m RA RB ∧ Below w.heap.size w w' := by
  rcases h.2.2 with ⟨rfl, rfl, rfl⟩ | ⟨g, rfl⟩
  · refine (clone_nil w).mono ?_
    rintro e w' ⟨rfl, hb⟩
    exact ⟨none, 0, rfl, Pairs.zero _ _ _ _, hb⟩
  · exact clone_some g m ec RA RB w hm h.2.1

theorem mid_und {w : World} {b : Nat} (h : Cells w b 16 nodeF) (id : ByteArray) (RA RB : Nat → Int) : Mid w b none id 0 RA RB none 0 :=
  ⟨⟨⟨(h 0 (by decide)).1, (h 2 (by decide)).1, (h 2 (by decide)).2, (h 11 (by decide)).1, (h 11 (by decide)).2⟩, Or.inl ⟨(h 10 (by decide)).1, rfl⟩⟩, Pairs.zero _ _ _ _, Or.inl ⟨rfl, rfl, rfl⟩⟩

theorem mid_dec {w : World} {b rs ex m c ec : Nat} {A B : Nat → Int} {S : Nat → ByteArray} (id : ByteArray) (h : Cells w b 16 nodeF) (h3 : Fill3 w rs m m A B S) (hE : Fill w ex m m (stA id A S) (stB id B S)) (hr : rs < w.heap.size) (he : ex < w.heap.size) (n1 : rs ≠ b) (n2 : ex ≠ b) :
    Mid ((w.setCell ⟨b, 10, none⟩ (.slice (some ⟨rs, 0, none⟩) m c)).setCell ⟨b, 9, none⟩ (.int .i64 ((m : Int) - 1))) b none id m (stA id A S) (stB id B S) (some ⟨ex, 0, none⟩) ec := by
  have k := (h.set (i := 10) (by decide) (.slice (some ⟨rs, 0, none⟩) m c)).set (i := 9) (by decide) (.int .i64 ((m : Int) - 1))
  refine ⟨⟨⟨(k 0 (by decide)).1, (k 2 (by decide)).1, (k 2 (by decide)).2, (k 11 (by decide)).1, (k 11 (by decide)).2⟩, Or.inr ⟨rs, c, A, B, S, (k 9 (by decide)).1, (k 10 (by decide)).1, (h3.other _ (Ne.symm n1) _).other _ (Ne.symm n1) _, ?_, n1, rfl, rfl⟩⟩, ?_, Or.inr ⟨_, rfl⟩⟩
  · rw [setCell_size, setCell_size]; exact hr
  · exact ((hE.other _ (Ne.symm n2) _).other _ (Ne.symm n2) _).pairs (by rw [setCell_size, setCell_size]; exact he)

end Go.Proofs.YbulkavwwDoor
