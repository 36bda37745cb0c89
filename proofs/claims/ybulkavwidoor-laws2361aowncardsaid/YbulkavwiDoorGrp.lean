/-
  The index under way, and what one round makes of it.
-/
import Derived.Test.YbulkavwiDoorGroups
namespace Go.Proofs.YbulkavwiDoor
open Go.RowKit
set_option linter.unusedSimpArgs false
set_option linter.unusedVariables false

def Grp (W : World) (bm B : Nat) (κ : Nat → ByteArray) (pre : List Nat) : Prop :=
  ∃ es cl gs, W.heap[bm]? = some (.map es cl) ∧ Ents es (gs.map kv) ∧ gs.map pl = groups κ pre ∧ Rows' W B gs ∧ ∀ q ∈ gs, q.2.2.length ≤ pre.length

theorem Grp.nil {W : World} {bm B cl : Nat} (κ : Nat → ByteArray) (h : W.heap[bm]? = some (.map #[] cl)) : Grp W bm B κ [] :=
  ⟨#[], cl, [], h, rfl, rfl, ⟨(fun _ hq => by cases hq), List.Pairwise.nil⟩, (fun _ hq => by cases hq)⟩

theorem rows_kept {W W' : World} {B : Nat} {row : Option Nat} {gs : List Gr} (h : Rows' W B gs) (hg : W.grownBy W' row) (hr : ∀ r, row = some r → ∃ o : Obj, W.heap[r]? = some o ∧ o.isCells = false) : Rows' W' B gs := by
  refine ⟨fun q hq => ⟨(h.1 q hq).1.kept hg ?_, (h.1 q hq).2⟩, h.2⟩
  rcases (h.1 q hq).1.2 with ⟨e, _⟩ | ⟨g, cap, cur, e, _, hgb, _⟩
  · exact .inl (by rw [e]; rfl)
  · refine .inr fun e' => ?_
    rw [e] at e'
    obtain ⟨o, ho, hc⟩ := hr g e'.symm
    rw [hgb] at ho
    cases ho
    cases hc

theorem Grp.own {W W' : World} {bm B : Nat} {κ : Nat → ByteArray} {pre : List Nat} {row : Option Nat} (h : Grp W bm B κ pre) (hbm : bm < B) (hg : W.grownBy W' row) (hr : ∀ r, row = some r → B ≤ r ∧ ∃ o : Obj, W.heap[r]? = some o ∧ o.isCells = false) : Grp W' bm B κ pre := by
  obtain ⟨es, cl, gs, h1, h2, h3, h4, h5⟩ := h
  exact ⟨es, cl, gs, (hg.block bm (Array.getElem?_eq_some_iff.1 h1).1 (fun e => by have := (hr bm e.symm).1; omega)).trans h1, h2, h3, rows_kept h4 hg (fun r e => (hr r e).2), h5⟩

theorem look_len (s : ByteArray) (n : Nat) : ∀ (gs : List Gr), (∀ q ∈ gs, q.2.2.length ≤ n) → (look s gs).2.length ≤ n
  | [], _ => by simp [look]
  | (k, u, m) :: r, h => by
    by_cases c : s = k
    · simpa [look, c] using h _ (List.mem_cons_self ..)
    · simpa [look, c] using look_len s n r (fun q hq => h q (List.mem_cons_of_mem _ hq))

theorem put_len (s : ByteArray) (v : Value) (x n : Nat) : ∀ (gs : List Gr), (∀ q ∈ gs, q.2.2.length ≤ n) → ∀ q ∈ put s v x gs, q.2.2.length ≤ n + 1
  | [], _, q, hq => by
    simp only [put, List.mem_singleton] at hq
    subst hq
    simp
  | (k, u, m) :: r, h, q, hq => by
    by_cases c : s = k
    · simp only [put, c, if_true] at hq
      rcases List.mem_cons.1 hq with rfl | hq
      · have := h _ (List.mem_cons_self ..)
        simp at this ⊢
        omega
      · have := h q (List.mem_cons_of_mem _ hq)
        omega
    · simp only [put, c, if_false] at hq
      rcases List.mem_cons.1 hq with rfl | hq
      · have := h _ (List.mem_cons_self ..)
        omega
      · exact put_len s v x n r (fun q hq => h q (List.mem_cons_of_mem _ hq)) q hq

/-- ONE ROUND. -/
theorem round_facts {W : World} {bm B n₀ : Nat} {κ : Nat → ByteArray} {pre : List Nat} (h : Grp W bm B κ pre) (x : Nat) (hbm : bm < B) (hn : n₀ ≤ bm) (hB : B ≤ W.heap.size) (hl : pre.length ≤ 2048) :
    ∃ v v' w' es cl es' cl', W.heap[bm]? = some (.map es cl) ∧ (∀ V : World, V.heap[bm]? = some (.map es cl) → (Instr.lookup 49 (.map (some bm)) (.string (κ x)) false).run Ybad.prog V = .ok v V) ∧
      (Builtin.append_ #[40, 40] 40 #[v, .slice (some ⟨W.heap.size, 0, none⟩) 1 1]).run Ybad.prog (W.alloc (.cells #[encP x] 39)).drew = .ok v' w' ∧
      (Instr.mapUpdate 49 (.map (some bm)) (.string (κ x)) v').run Ybad.prog w' = .ok () (w'.putObj bm (.map es' cl')) ∧ (∃ g c, v' = .slice (some ⟨g, 0, none⟩) c c ∨ ∃ k c', v' = .slice (some ⟨g, 0, none⟩) k c') ∧
      (∀ b j u, b < B → W.cell? ⟨b, j, none⟩ = some u → w'.cell? ⟨b, j, none⟩ = some u) ∧
      Grp (w'.putObj bm (.map es' cl')) bm B κ (pre ++ [x]) ∧ KeepsFrom B W (w'.putObj bm (.map es' cl')) ∧ Below n₀ W (w'.putObj bm (.map es' cl')) ∧ (∀ k, k < B → k ≠ bm → (w'.putObj bm (.map es' cl')).heap[k]? = W.heap[k]?) := by
  obtain ⟨es, cl, gs, h1, h2, h3, h4, h5⟩ := h
  obtain ⟨i0, hi, hz0, hz1, hz2⟩ := info_parts Ybad.info39
  have hlen := look_len (κ x) pre.length gs h5
  have hown := look_own (κ x) h4
  have hown2 : (W.alloc (.cells #[encP x] 39)).drew.ownsRow B 39 1 (look (κ x) gs).1 (look (κ x) gs).2.length ((look (κ x) gs).2.map encP) := hown.alloc _
  obtain ⟨v', w', hrun, ho', hg', hnil, hblk⟩ := run_append_own_at (P := Ybad.prog) (W.alloc (.cells #[encP x] 39)).drew B 40 40 39 i0 (.pointer none) 1 8 Ybad.underlying40 hi hz0 hz1 hz2 rfl (by decide) _ _ _ hown2
    ⟨W.heap.size, 0, none⟩ 1 1 [encP x] rfl (cell_one_new _ _ _) (by simp [encP, Value.oneCell']) (by unfold maxLen; omega) (by omega) (by show B ≤ (W.alloc _).heap.size; rw [World.size_alloc]; omega)
  have hsz : (W.alloc (.cells #[encP x] 39)).drew.heap.size = W.heap.size + 1 := World.size_alloc _ _
  have hal : ∀ k, k < W.heap.size → (W.alloc (.cells #[encP x] 39)).drew.heap[k]? = W.heap[k]? := fun k hk => Below.heap_alloc W _ k hk
  have hbmlt : bm < W.heap.size := by omega
  have hrow : ∀ r, (look (κ x) gs).1.ownBlock = some r → B ≤ r ∧ ∃ ca ta fz, W.heap[r]? = some (.cells ca ta fz) := by
    intro r hr
    rcases hown.2 with ⟨e, _⟩ | ⟨g, cap, cur, e, hb, hgb, _⟩
    · rw [e] at hr; cases hr
    · rw [e] at hr
      cases hr
      exact ⟨hb, cur, 39, (0, 0), hgb⟩
  have hm' : w'.heap[bm]? = some (.map es cl) := (hg'.block bm (by rw [hsz]; omega) (fun e => by have := (hrow bm e.symm).1; omega)).trans ((hal bm hbmlt).trans h1)
  obtain ⟨es', cl', hup, hents⟩ := update49 (κ x) v' hm' h2
  have hkv : (put (κ x) v' x gs).map kv = ins (κ x) v' (gs.map kv) := put_kv _ _ _ _
  have hv'ne : v'.ownBlock ≠ none := by
    rcases ho'.2 with ⟨_, h0⟩ | ⟨g, cap, cur, e, _⟩
    · omega
    · rw [e]; simp [Value.ownBlock]
  have hrows : Rows' w' B (put (κ x) v' x gs) := by
    refine rows_put (W := (W.alloc (.cells #[encP x] 39)).drew) (κ x) v' x ⟨fun q hq => ⟨(h4.1 q hq).1.alloc _, (h4.1 q hq).2⟩, h4.2⟩ hg' ho' hblk hv'ne
  have hw'sz : W.heap.size ≤ w'.heap.size := by have := hg'.size; rw [hsz] at this; omega
  refine ⟨(look (κ x) gs).1, v', w', es, cl, es', cl', h1, fun V hV => by rw [lookup49 (κ x) hV h2, look_find], hrun, hup, ?_, ?_, ?_, ?_, ?_, ?_⟩
  · rcases ho'.2 with ⟨_, h0⟩ | ⟨g, cap, cur, e, _⟩
    · omega
    · exact ⟨g, 0, .inr ⟨_, cap, e⟩⟩
  · intro b j u hb hc
    have hblt : b < W.heap.size := by omega
    have hc2 : (W.alloc (.cells #[encP x] 39)).drew.cell? ⟨b, j, none⟩ = some u := by
      show (W.alloc (.cells #[encP x] 39)).cell? ⟨b, j, none⟩ = some u
      rw [World.cell?_alloc_lt _ _ _ hblt]
      exact hc
    exact hg'.cell hc2 (fun e => by have := (hrow b e.symm).1; omega)
  · refine ⟨es', cl', put (κ x) v' x gs, World.putObj_heap_same (by omega), by rw [hkv]; exact hents, by rw [put_pl, h3, groups_snoc], ?_, ?_⟩
    · exact rows_kept hrows (grownBy_putObj' _ _ _) (fun r e => by cases e; exact ⟨_, hm', rfl⟩)
    · intro q hq
      rw [List.length_append]
      exact put_len (κ x) v' x pre.length gs h5 q hq
  · refine ⟨by show W.heap.size ≤ (w'.heap.setIfInBounds _ _).size; simpa using hw'sz, fun k o hk ho hcell => ?_⟩
    have hklt : k < W.heap.size := (Array.getElem?_eq_some_iff.1 ho).1
    refine (World.putObj_heap_other (by omega)).trans ((hg'.block k (by rw [hsz]; omega) (fun e => ?_)).trans ((hal k hklt).trans ho))
    obtain ⟨-, ca, ta, fz, hc⟩ := hrow k e.symm
    rw [hc] at ho
    cases ho
    cases hcell
  · refine ⟨hg'.os, hg'.tape, hg'.output, by show W.heap.size ≤ (w'.heap.setIfInBounds _ _).size; simpa using hw'sz, fun k hk => ?_⟩
    exact (World.putObj_heap_other (by omega)).trans ((hg'.block k (by rw [hsz]; omega) (fun e => by have := (hrow k e.symm).1; omega)).trans (hal k (by omega)))
  · intro k hk hne
    exact (World.putObj_heap_other hne).trans ((hg'.block k (by rw [hsz]; omega) (fun e => by have := (hrow k e.symm).1; omega)).trans (hal k (by omega)))

end Go.Proofs.YbulkavwiDoor
