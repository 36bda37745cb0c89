/-
  The groups: which rows stand under which keys.
-/
import Derived.Test.YbulkavwiDoorIter
namespace Go.Proofs.YbulkavwiDoor
open Go.RowKit
set_option linter.unusedSimpArgs false
set_option linter.unusedVariables false

/-- Plain: one more instance under its key. -/
def add (s : ByteArray) (x : Nat) : List (ByteArray × List Nat) → List (ByteArray × List Nat)
  | [] => [(s, [x])]
  | (k, m) :: r => if s = k then (k, m ++ [x]) :: r else (k, m) :: add s x r
def groups (κ : Nat → ByteArray) (xs : List Nat) : List (ByteArray × List Nat) := xs.foldl (fun g x => add (κ x) x g) []

theorem groups_snoc (κ : Nat → ByteArray) (xs : List Nat) (x : Nat) : groups κ (xs ++ [x]) = add (κ x) x (groups κ xs) := by
  unfold groups
  rw [List.foldl_append]
  rfl

/-- A group as it lies: its key, its slice, its members. -/
abbrev Gr := ByteArray × Value × List Nat
def kv (q : Gr) : ByteArray × Value := (q.1, q.2.1)
def pl (q : Gr) : ByteArray × List Nat := (q.1, q.2.2)

def put (s : ByteArray) (v : Value) (x : Nat) : List Gr → List Gr
  | [] => [(s, v, [x])]
  | (k, u, m) :: r => if s = k then (k, v, m ++ [x]) :: r else (k, u, m) :: put s v x r
def look (s : ByteArray) : List Gr → Value × List Nat
  | [] => (.slice none 0 0, [])
  | (k, u, m) :: r => if s = k then (u, m) else look s r

theorem put_kv (s : ByteArray) (v : Value) (x : Nat) : ∀ gs : List Gr, (put s v x gs).map kv = ins s v (gs.map kv)
  | [] => rfl
  | (k, u, m) :: r => by
    by_cases c : s = k
    · simp [put, ins, kv, c]
    · simp [put, ins, kv, c]
      exact put_kv s v x r
theorem put_pl (s : ByteArray) (v : Value) (x : Nat) : ∀ gs : List Gr, (put s v x gs).map pl = add s x (gs.map pl)
  | [] => rfl
  | (k, u, m) :: r => by
    by_cases c : s = k
    · simp [put, add, pl, c]
    · simp [put, add, pl, c]
      exact put_pl s v x r
theorem look_find (s : ByteArray) : ∀ (gs : List Gr) (i : Nat), ((find s (gs.map kv) i).map (·.2)).getD (.slice none 0 0) = (look s gs).1
  | [], _ => rfl
  | (k, u, m) :: r, i => by
    by_cases c : s = k
    · simp [find, look, kv, c]
    · simp [find, look, kv, c]
      exact look_find s r (i + 1)

/-- Each group owns its row; no two the same. -/
def Rows' (W : World) (B : Nat) (gs : List Gr) : Prop := (∀ q ∈ gs, W.ownsRow B 39 1 q.2.1 q.2.2.length (q.2.2.map encP) ∧ q.2.2 ≠ []) ∧ gs.Pairwise (fun p q => p.2.1.ownBlock ≠ q.2.1.ownBlock)

theorem look_own {W : World} {B : Nat} (s : ByteArray) : ∀ {gs : List Gr}, Rows' W B gs → W.ownsRow B 39 1 (look s gs).1 (look s gs).2.length ((look s gs).2.map encP)
  | [], _ => World.ownsRow_nil W B 39 1
  | (k, u, m) :: r, h => by
    by_cases c : s = k
    · simpa [look, c] using (h.1 _ (List.mem_cons_self ..)).1
    · have := look_own s (gs := r) ⟨fun q hq => h.1 q (List.mem_cons_of_mem _ hq), (List.pairwise_cons.1 h.2).2⟩
      simpa [look, c] using this

theorem block_some {W : World} {B : Nat} {v : Value} {m : List Nat} (h : W.ownsRow B 39 1 v m.length (m.map encP)) (hm : m ≠ []) : ∃ g, v.ownBlock = some g ∧ g < W.heap.size := by
  rcases h.2 with ⟨_, h0⟩ | ⟨g, cap, cur, rfl, _, hg, _⟩
  · exact absurd (List.length_eq_zero_iff.1 h0) hm
  · exact ⟨g, rfl, (Array.getElem?_eq_some_iff.1 hg).1⟩

/-- Where the row that was looked up has been appended to, the others lie as they lay, and no two rows meet. -/
theorem rows_put {W W' : World} {B : Nat} (s : ByteArray) (v' : Value) (x : Nat) : ∀ {gs : List Gr}, Rows' W B gs → W.grownBy W' (look s gs).1.ownBlock →
    W'.ownsRow B 39 1 v' ((look s gs).2.length + 1) ((look s gs).2.map encP ++ [encP x]) → (v'.ownBlock = (look s gs).1.ownBlock ∨ v'.ownBlock = some W.heap.size) → v'.ownBlock ≠ none → Rows' W' B (put s v' x gs)
  | [], _, _, hv, hb, _ => ⟨fun q hq => by
      simp only [put, List.mem_singleton] at hq
      subst hq
      exact ⟨by simpa [look] using hv, by simp⟩, List.pairwise_singleton ..⟩
  | (k, u, m) :: r, h, hg, hv, hb, hn => by
    obtain ⟨hq, hp⟩ := h
    obtain ⟨hp1, hp2⟩ := List.pairwise_cons.1 hp
    by_cases c : s = k
    · simp only [look, c, if_true] at hg hv hb
      simp only [put, c, if_true]
      refine ⟨fun q hmem => ?_, List.pairwise_cons.2 ⟨fun q hmem => ?_, hp2⟩⟩
      · rcases List.mem_cons.1 hmem with rfl | hmem
        · exact ⟨by simpa using hv, by simp⟩
        · obtain ⟨o1, o2⟩ := hq q (List.mem_cons_of_mem _ hmem)
          exact ⟨o1.kept hg (.inr (fun e => hp1 q hmem e.symm)), o2⟩
      · obtain ⟨o1, o2⟩ := hq q (List.mem_cons_of_mem _ hmem)
        obtain ⟨gq, eq, lq⟩ := block_some o1 o2
        intro e
        have e' : v'.ownBlock = q.2.1.ownBlock := e
        rcases hb with hb | hb
        · exact hp1 q hmem (hb.symm.trans e')
        · rw [hb, eq] at e'
          have := Option.some.inj e'
          omega
    · simp only [look, c, if_false] at hg hv hb
      simp only [put, c, if_false]
      have ih := rows_put s v' x (gs := r) ⟨fun q hmem => hq q (List.mem_cons_of_mem _ hmem), hp2⟩ hg hv hb hn
      obtain ⟨o1, o2⟩ := hq _ (List.mem_cons_self ..)
      obtain ⟨g1, e1, l1⟩ := block_some o1 o2
      have lookne : (look s r).1.ownBlock ≠ u.ownBlock := by
        intro e
        have key : ∀ (r : List Gr), (∀ q ∈ r, u.ownBlock ≠ q.2.1.ownBlock) → (look s r).1.ownBlock = u.ownBlock → u.ownBlock = none := by
          intro r
          induction r with
          | nil => intro _ e; exact e.symm.trans rfl
          | cons q r ih2 =>
            obtain ⟨k2, u2, m2⟩ := q
            intro hne e
            by_cases c2 : s = k2
            · simp only [look, c2, if_true] at e
              exact absurd e.symm (hne _ (List.mem_cons_self ..))
            · simp only [look, c2, if_false] at e
              exact ih2 (fun q hm => hne q (List.mem_cons_of_mem _ hm)) e
        have := key r hp1 e
        rw [e1] at this
        cases this
      have hputs : ∀ (r : List Gr), (∀ q ∈ r, u.ownBlock ≠ q.2.1.ownBlock) → ∀ q ∈ put s v' x r, u.ownBlock ≠ q.2.1.ownBlock := by
        have hv' : u.ownBlock ≠ v'.ownBlock := by
          rcases hb with hb | hb
          · rw [hb]; exact lookne.symm
          · rw [hb, e1]
            intro e
            have := Option.some.inj e
            omega
        intro r
        induction r with
        | nil =>
          intro _ q hq'
          simp only [put, List.mem_singleton] at hq'
          subst hq'
          exact hv'
        | cons q r ih2 =>
          obtain ⟨k2, u2, m2⟩ := q
          intro hne q hq'
          by_cases c2 : s = k2
          · simp only [put, c2, if_true] at hq'
            rcases List.mem_cons.1 hq' with rfl | hq'
            · exact hv'
            · exact hne q (List.mem_cons_of_mem _ hq')
          · simp only [put, c2, if_false] at hq'
            rcases List.mem_cons.1 hq' with rfl | hq'
            · exact hne _ (List.mem_cons_self ..)
            · exact ih2 (fun q hm => hne q (List.mem_cons_of_mem _ hm)) q hq'
      refine ⟨fun q hmem => ?_, List.pairwise_cons.2 ⟨hputs r hp1, ih.2⟩⟩
      rcases List.mem_cons.1 hmem with rfl | hmem
      · exact ⟨o1.kept hg (.inr (fun e => lookne e.symm)), o2⟩
      · exact ih.1 q hmem

end Go.Proofs.YbulkavwiDoor
