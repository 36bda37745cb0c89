/-
  What the grown map holds.
-/
import Derived.Test.YbulkavwiDoorMade
namespace Go.Proofs.YbulkavwiDoor
open Go.RowKit
set_option linter.unusedSimpArgs false
set_option linter.unusedVariables false

/-- The row of a key. -/
def lk (s : ByteArray) : List (ByteArray × List Nat) → List Nat
  | [] => []
  | (k, m) :: r => if s = k then m else lk s r

theorem lk_add (s t : ByteArray) (x : Nat) : ∀ g : List (ByteArray × List Nat), lk s (add t x g) = if t = s then lk s g ++ [x] else lk s g
  | [] => by
    by_cases c : t = s
    · simp [add, lk, c]
    · simp [add, lk, c, Ne.symm c]
  | (k, m) :: r => by
    by_cases c : t = s
    · subst c
      by_cases d : t = k
      · simp [add, lk, d]
      · simp [add, lk, d, lk_add t t x r]
    · by_cases d : t = k
      · subst d
        simp [add, lk, c, Ne.symm c]
      · by_cases e : s = k
        · simp [add, lk, c, d, e]
        · simp [add, lk, c, d, e, lk_add s t x r]

/-- Is the key there? -/
def has (s : ByteArray) : List (ByteArray × List Nat) → Bool
  | [] => false
  | (k, _) :: r => decide (s = k) || has s r

theorem add_keys (t : ByteArray) (x : Nat) : ∀ g : List (ByteArray × List Nat), (add t x g).length = if has t g then g.length else g.length + 1
  | [] => by simp [add, has]
  | (k, m) :: r => by
    by_cases d : t = k
    · simp [add, has, d]
    · simp only [add, has, d, if_false, List.length_cons, add_keys t x r, decide_false, Bool.false_or]
      split <;> omega

theorem add_has (s t : ByteArray) (x : Nat) : ∀ g : List (ByteArray × List Nat), has s (add t x g) = (decide (s = t) || has s g)
  | [] => by simp [add, has]
  | (k, m) :: r => by
    by_cases d : t = k
    · subst d
      cases h : decide (s = t) <;> simp [add, has, h]
    · simp only [add, has, d, if_false, add_has s t x r]
      cases decide (s = k) <;> cases decide (s = t) <;> simp

theorem snoc_ind {α : Type} {p : List α → Prop} (h0 : p []) (h1 : ∀ xs x, p xs → p (xs ++ [x])) (xs : List α) : p xs := by
  have h : ∀ ys : List α, p ys.reverse := by
    intro ys
    induction ys with
    | nil => exact h0
    | cons y r ih => rw [List.reverse_cons]; exact h1 _ _ ih
  have := h xs.reverse
  rwa [List.reverse_reverse] at this

theorem lk_groups (κ : Nat → ByteArray) (s : ByteArray) (xs : List Nat) : lk s (groups κ xs) = xs.filter (fun x => decide (κ x = s)) := by
  induction xs using snoc_ind with
  | h0 => rfl
  | h1 xs x ih =>
    rw [groups_snoc, lk_add, ih, List.filter_append]
    by_cases c : κ x = s <;> simp [c]

theorem has_groups (κ : Nat → ByteArray) (s : ByteArray) (xs : List Nat) : has s (groups κ xs) = xs.any (fun x => decide (κ x = s)) := by
  induction xs using snoc_ind with
  | h0 => rfl
  | h1 xs x ih =>
    rw [groups_snoc, add_has, ih, List.any_append]
    have : decide (s = κ x) = decide (κ x = s) := decide_eq_decide.2 eq_comm
    rw [this, Bool.or_comm]
    simp

theorem len_groups (κ : Nat → ByteArray) (xs : List Nat) (x : Nat) : (groups κ (xs ++ [x])).length = if xs.any (fun y => decide (κ y = κ x)) then (groups κ xs).length else (groups κ xs).length + 1 := by
  rw [groups_snoc, add_keys, has_groups]

theorem look_lk (s : ByteArray) : ∀ gs : List Gr, (look s gs).2 = lk s (gs.map pl)
  | [] => rfl
  | (k, u, m) :: r => by
    by_cases c : s = k
    · simp [look, lk, pl, c]
    · simp [look, lk, pl, c, look_lk s r]

theorem find_has (s : ByteArray) : ∀ (gs : List Gr) (i : Nat), (find s (gs.map kv) i).isSome = has s (gs.map pl)
  | [], _ => rfl
  | (k, u, m) :: r, i => by
    by_cases c : s = k
    · simp [find, kv, pl, has, c]
    · have := find_has s r (i + 1)
      simp only [List.map_cons, find, kv, pl, has, c, if_false, decide_false, Bool.false_or]
      exact this

theorem lookup49t {w : World} {b clock : Nat} {es : Array MapEntry} {kvs : List (ByteArray × Value)} (s : ByteArray) (hb : w.heap[b]? = some (.map es clock)) (he : Ents es kvs) :
    (Instr.lookup 49 (.map (some b)) (.string s) true).run Ybad.prog w = .ok (.tuple #[((find s kvs 0).map (·.2)).getD (.slice none 0 0), .bool (find s kvs 0).isSome]) w := by
  have hf := MapKept.run_findKey (P := Ybad.prog) (w := w) Ybad.underlying9 (findNow_ents s es.toList kvs 0 he)
  simp only [Instr.lookup, Sem.run_bind, run_underlying Ybad.underlying49, Result.andThen, MapKept.run_getObj_map hb, key_ok, hf, Sem.run_pure]
  cases find s kvs 0 with
  | none => simp [Ybad.zeroValue40, Result.andThen]
  | some q => simp [Result.andThen]

/-- What the map holds: the row of each key, how many keys. -/
theorem Grp.holds {W : World} {bm B : Nat} {κ : Nat → ByteArray} {xs : List Nat} (h : Grp W bm B κ xs) :
    ∃ es cl, W.heap[bm]? = some (.map es cl) ∧ es.size = (groups κ xs).length ∧ ∀ s, ∃ v, (∀ V : World, V.heap[bm]? = some (.map es cl) → (Instr.lookup 49 (.map (some bm)) (.string s) false).run Ybad.prog V = .ok v V) ∧
      (∀ V : World, V.heap[bm]? = some (.map es cl) → (Instr.lookup 49 (.map (some bm)) (.string s) true).run Ybad.prog V = .ok (.tuple #[v, .bool (xs.any (fun x => decide (κ x = s)))]) V) ∧
      W.ownsRow B 39 1 v (xs.filter (fun x => decide (κ x = s))).length ((xs.filter (fun x => decide (κ x = s))).map encP) := by
  obtain ⟨es, cl, gs, h1, h2, h3, h4, h5⟩ := h
  refine ⟨es, cl, h1, ?_, fun s => ⟨(look s gs).1, fun V hV => ?_, fun V hV => ?_, ?_⟩⟩
  · have := congrArg List.length h2
    simp at this
    rw [this, ← h3, List.length_map]
  · rw [lookup49 s hV h2, look_find]
  · rw [lookup49t s hV h2, look_find, find_has, h3]
    rw [has_groups]
  · have := look_own s h4
    rw [look_lk, h3, lk_groups] at this
    exact this

theorem groups_const (s : ByteArray) (xs : List Nat) : (groups (fun _ => s) xs).length = if xs = [] then 0 else 1 := by
  induction xs using snoc_ind with
  | h0 => rfl
  | h1 xs x ih =>
    rw [len_groups, ih]
    cases xs with
    | nil => simp
    | cons y r => simp

/-- With one key: nothing, or the row of all. -/
theorem Grp.one {W : World} {bm B : Nat} {s : ByteArray} {xs : List Nat} (h : Grp W bm B (fun _ => s) xs) :
    ∃ es cl v, W.heap[bm]? = some (.map es cl) ∧ es.size = (if xs = [] then 0 else 1) ∧ (∀ V : World, V.heap[bm]? = some (.map es cl) → (Instr.lookup 49 (.map (some bm)) (.string s) false).run Ybad.prog V = .ok v V) ∧ W.ownsRow B 39 1 v xs.length (xs.map encP) := by
  obtain ⟨es, cl, h1, h2, h3⟩ := h.holds
  obtain ⟨v, h4, -, h6⟩ := h3 s
  rw [groups_const] at h2
  have e : xs.filter (fun _ => decide (s = s)) = xs := List.filter_eq_self.2 (fun _ _ => by simp)
  rw [e] at h6
  exact ⟨es, cl, v, h1, h2, h4, h6⟩

theorem Kept.below {n : Nat} {w0 w W : World} {p q : Nat} (h : Kept w W p q) (hb : Below n w0 w) (hn : n ≤ w0.heap.size) (hp : n ≤ p) (hq : n ≤ q) : Below n w0 W :=
  ⟨h.1.trans hb.os, h.2.1.trans hb.tape, h.2.2.1.trans hb.output, Nat.le_trans hb.size h.2.2.2.1, fun k hk => (h.2.2.2.2 k (Nat.lt_of_lt_of_le hk (Nat.le_trans hn hb.size)) (by omega) (by omega)).trans (hb.block k hk)⟩

end Go.Proofs.YbulkavwiDoor
