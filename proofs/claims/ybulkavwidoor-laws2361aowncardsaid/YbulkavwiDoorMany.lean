/-
  childrenOf among more than sixteen.
-/
import Derived.Test.YbulkavwiDoorKids
namespace Go.Proofs.YbulkavwiDoor
open Go.RowKit
set_option linter.unusedSimpArgs false
set_option linter.unusedVariables false
attribute [local go_sem ↓] Go.wp_at_zero Go.wp_at_succ

theorem gb_set (w : World) (b o : Nat) (v : Value) : w.grownBy (w.setCell ⟨b, o, none⟩ v) (some b) :=
  ⟨rfl, rfl, rfl, by simp [World.setCell], fun k hk hne => (((Below.refl (w.heap.size) w).block k hk) ▸ by
    simp [World.setCell, Array.getElem?_modify, show ¬ b = k from fun h => hne (by rw [h])])⟩

theorem gb_trans {a b c : World} {row : Option Nat} (h : a.grownBy b row) (k : b.grownBy c row) : a.grownBy c row :=
  ⟨k.os.trans h.os, k.tape.trans h.tape, k.output.trans h.output, Nat.le_trans h.size k.size, fun i hi hne => (k.block i (Nat.lt_of_lt_of_le hi h.size) hne).trans (h.block i hi hne)⟩

theorem cell_put {w : World} {r b j : Nat} {o : Obj} (h : b ≠ r) : (w.putObj r o).cell? ⟨b, j, none⟩ = w.cell? ⟨b, j, none⟩ := by
  unfold World.cell?
  rw [World.putObj_heap_other h]
theorem frozen_put {w : World} {r b j : Nat} {o : Obj} (h : b ≠ r) : (w.putObj r o).frozen? ⟨b, j, none⟩ = w.frozen? ⟨b, j, none⟩ := by
  unfold World.frozen?
  rw [World.putObj_heap_other h]

theorem Turn.put {pb r : Nat} {w W : World} (h : Turn pb w W) (hp : pb < w.heap.size) (hr : w.heap.size ≤ r) (o : Obj) : Turn pb w (W.putObj r o) :=
  ⟨⟨h.1.os, h.1.tape, h.1.output, by show _ ≤ (W.heap.setIfInBounds r o).size; simpa using h.1.size, fun k hk hne => (World.putObj_heap_other (by omega)).trans (h.1.block k hk hne)⟩,
    fun j hj => (cell_put (by omega)).trans (h.2.1 j hj), fun j => (frozen_put (by omega)).trans (h.2.2 j)⟩

theorem Turn.below {pb : Nat} {w W W' : World} (h : Turn pb w W) (hp : pb < w.heap.size) (hb : Below W.heap.size W W') : Turn pb w W' :=
  have lp : pb < W.heap.size := Nat.lt_of_lt_of_le hp h.1.size
  ⟨gb_trans h.1 ⟨hb.os, hb.tape, hb.output, hb.size, fun k hk _ => hb.block k hk⟩, fun j hj => (hb.cell (p := ⟨pb, j, none⟩) lp).trans (h.2.1 j hj), fun j => (hb.frozen (p := ⟨pb, j, none⟩) lp).trans (h.2.2 j)⟩

theorem Turn.set {pb : Nat} {w W : World} (h : Turn pb w W) (v : Value) : Turn pb w (W.setCell ⟨pb, 3, none⟩ v) :=
  ⟨gb_trans h.1 (gb_set W pb 3 v), fun j hj => (World.cell?_setCell_other _ _ _ _ (fun hh => hj (Addr.mk.inj hh).2.1.symm)).trans (h.2.1 j hj), fun j => by rw [World.frozen?_setCell]; exact h.2.2 j⟩

theorem Turn.whole {pb b : Nat} {w W : World} (h : Turn pb w W) (hw : Whole w b) (hne : b ≠ pb) : Whole W b := by
  obtain ⟨ca, ta, hc⟩ := hw
  exact ⟨ca, ta, (h.1.block b (Array.getElem?_eq_some_iff.1 hc).1 (fun hh => hne (Option.some.inj hh))).trans hc⟩

theorem Turn.kids {pb g o n : Nat} {w W : World} {kid sch : Nat → Nat} (h : Turn pb w W) (hK : Kids w g o n kid sch) (hne : g ≠ pb) : Kids W g o n kid sch := fun k hk => by
  obtain ⟨h1, h2⟩ := hK k hk
  refine ⟨h.1.cell h1 (fun hh => hne (Option.some.inj hh)), ?_⟩
  by_cases e : kid k = pb
  · rw [e] at h2 ⊢
    exact (h.2.1 0 (by decide)).trans h2
  · exact h.1.cell h2 (fun hh => e (Option.some.inj hh))

/-- What the map by nodes holds when the rows up to o are done. -/
def Done (g a n mb nb o : Nat) (es : Array MapEntry) (cl : Nat) : Prop :=
  (o = 0 ∧ 0 < n ∧ es = #[] ∧ cl = 0) ∨ (o = a ∧ 0 < a ∧ es = #[ent mb (.slice (some ⟨g, 0, none⟩) a a) 0] ∧ cl = 1) ∨
  (o = n ∧ a < n ∧ a = 0 ∧ es = #[ent nb (.slice (some ⟨g, a, none⟩) (n - a) (n - a)) 0] ∧ cl = 1) ∨
  (o = n ∧ a < n ∧ 0 < a ∧ es = #[ent mb (.slice (some ⟨g, 0, none⟩) a a) 0, ent nb (.slice (some ⟨g, a, none⟩) (n - a) (n - a)) 1] ∧ cl = 2)

theorem Done.look {g a n mb nb : Nat} {es : Array MapEntry} {cl : Nat} (h : Done g a n mb nb n es cl) (ha : a ≤ n) (hne : mb ≠ nb) (W : World) (hm : Whole W mb) (hn : Whole W nb) (r : Nat) (hr : W.heap[r]? = some (.map es cl)) :
    (Instr.lookup 41 (.map (some r)) (.pointer (some ⟨nb, 0, none⟩)) false).run Ybad.prog W = .ok (if a < n then .slice (some ⟨g, a, none⟩) (n - a) (n - a) else .slice none 0 0) W := by
  rcases h with ⟨h1, h2, -, -⟩ | ⟨h1, h2, rfl, rfl⟩ | ⟨h1, h2, h3, rfl, rfl⟩ | ⟨h1, h2, h3, rfl, rfl⟩
  · omega
  · have hlt : ¬ a < n := by omega
    rw [if_neg hlt]
    exact lookup41 W r 1 nb _ none hr (by rw [find_ask W nb _ _ ⟨_, rfl⟩, ask_other W nb mb 0 0 _ _ hne.symm hn hm, ask_nil])
  · rw [if_pos h2]
    exact lookup41 W r 1 nb _ (some (0, _)) hr (by rw [find_ask W nb _ _ ⟨_, rfl⟩, ask_same])
  · rw [if_pos h2]
    exact lookup41 W r 2 nb _ (some (1, _)) hr (by rw [find_ask W nb _ _ ⟨_, rfl⟩, ask_other W nb mb 0 0 _ _ hne.symm hn hm, ask_same])

/-- One row more: how long it is, of which node, and what the map holds then. -/
theorem Done.step {g a n mb nb o : Nat} {es : Array MapEntry} {cl : Nat} (h : Done g a n mb nb o es cl) (ho : o < n) (ha : a ≤ n) (hne : mb ≠ nb) :
    ∃ e s es' cl', 1 ≤ e ∧ o + e ≤ n ∧ Done g a n mb nb (o + e) es' cl' ∧ ((o = 0 ∧ 0 < a ∧ e = a ∧ s = mb) ∨ (o = a ∧ e = n - a ∧ s = nb)) ∧
      ∀ (W : World), Whole W mb → Whole W nb → ∀ r, W.heap[r]? = some (.map es cl) → (Instr.mapUpdate 41 (.map (some r)) (.pointer (some ⟨s, 0, none⟩)) (.slice (some ⟨g, o, none⟩) e e)).run Ybad.prog W = .ok () (W.putObj r (.map es' cl')) := by
  rcases h with ⟨rfl, h2, rfl, rfl⟩ | ⟨rfl, h2, rfl, rfl⟩ | ⟨h1, -⟩ | ⟨h1, -⟩
  · by_cases h0 : 0 < a
    · exact ⟨a, mb, _, 1, h0, by omega, .inr (.inl ⟨by omega, h0, rfl, rfl⟩), .inl ⟨rfl, h0, rfl, rfl⟩, fun W _ _ r hr => update41 W r 0 mb #[] _ hr (find_nil W mb)⟩
    · obtain rfl : a = 0 := by omega
      refine ⟨n, nb, _, 1, h2, by omega, .inr (.inr (.inl ⟨by omega, h2, rfl, rfl, rfl⟩)), .inr ⟨rfl, by omega, rfl⟩, fun W _ _ r hr => ?_⟩
      exact update41 W r 0 nb #[] _ hr (find_nil W nb)
  · refine ⟨n - o, nb, _, 2, by omega, by omega, .inr (.inr (.inr ⟨by omega, ho, h2, rfl, rfl⟩)), .inr ⟨rfl, rfl, rfl⟩, fun W hm hn r hr => ?_⟩
    exact update41 W r 1 nb _ _ hr (by rw [find_ask W nb _ _ ⟨_, rfl⟩, ask_other W nb mb 0 0 _ _ hne.symm hn hm, ask_nil])
  · omega
  · omega

end Go.Proofs.YbulkavwiDoor
