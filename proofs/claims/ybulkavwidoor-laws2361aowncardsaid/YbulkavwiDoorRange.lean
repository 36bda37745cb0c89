/-
  A range over an iterator that may turn one cell of a block which lay ahead of the loop, before its first round (the instance's index by nodes): the body never leaves.
-/
import Derived.Test.YbulkavwiDoorMore
namespace Go.Proofs.YbulkavwiDoor
open Go.RowKit
set_option linter.unusedSimpArgs false
set_option linter.unusedVariables false

/-- How this body is left: never but at its end. -/
def roundPost {α : Type} (B n₀ : Nat) (I : List α → World → Prop) (xs : List α) (W : World) : Exit → Act → World → Prop
  | .normal, _, W' => KeepsFrom B W W' ∧ Below n₀ W W' ∧ I xs W'
  | _, _, _ => False

/-- What the iterator promises: every one of xs comes, in order. -/
def Iterates {α : Type} (pb n₀ m gf : Nat) (lb : Array Value) (enc : α → Value) (xs : List α) (w : World) : Prop :=
  ∀ (l : Nat) (J : List α → World → Prop) (W : World), Below w.heap.size w W → J [] W → (∀ W', Turn pb W W' → J [] W') →
    (∀ pre x rest W1, xs = pre ++ x :: rest → J pre W1 → YieldAt Fence.wide (m - 1) Ybad.prog l #[enc x] W1 fun e W' => e = .returned (.bool true) ∧ J (pre ++ [x]) W' ∧ Below n₀ W1 W') →
    CallsIn Fence.wide m Ybad.prog gf (#[.func (.yield l) #[] #[]] ++ lb) W fun e W' => (∃ v, e = .returned v) ∧ J xs W'

theorem range_here {α : Type} {g : Operand} {p : Tmp} {assign body : Code} {Q : Exit → Act → World → Prop} {a : Act} {w : World} {n gf pb n₀ : Nat} {lb : Array Value} {enc : α → Value} {xs : List α}
    (h1 : 1 ≤ n) (hg : a.eval g = .func (.func gf) #[] lb) (eg : ∀ args w, (callFunc gf args).run Ybad.prog w = .ok (.enter gf args) w) (hpb : pb < w.heap.size) (hn₀ : n₀ ≤ w.heap.size)
    (hseq : Iterates pb n₀ (n - 1) gf lb enc xs w) (I : List α → World → Prop) (hI : OwnFrom w.heap.size I) (hT : ∀ W W', I [] W → Turn pb W W' → I [] W') (h0 : I [] w) (a₁ : α → Act)
    (hassign : ∀ (l : Nat) (x : α) (W : World) (K : Act → World → Prop), K (a₁ x) W → assign.wpIn (Fence.wide.inRound l) (n - 1 - 1) Ybad.prog (Exit.then K (fun _ _ _ => False)) { tmps := a.tmps.setIfInBounds p (enc x), defers := [] } W)
    (hbody : ∀ (l : Nat) (pre : List α) (x : α) (rest : List α) (W : World), xs = pre ++ x :: rest → I pre W → body.wpIn (Fence.wide.inRound l) (n - 1 - 1) Ybad.prog (roundPost w.heap.size n₀ I (pre ++ [x]) W) (a₁ x) W)
    (hdone : ∀ (D : Nat) (W : World), w.heap.size ≤ D → I xs W → W.heap[D]? = some (.deferred (some [])) → Q .normal { a with defers := { target := .collected D, args := #[] } :: a.defers } W) :
    (Code.rangeFunc g #[p] assign body).wpIn Fence.wide n Ybad.prog Q a w := by
  refine wpIn_rangeFunc fun fn hfn => ?_
  obtain ⟨rec, hrec⟩ : ∃ rec : LoopState → Loop, rec = fun st => { state := st, pending := none, fn, tmps := a.tmps, params := #[p], assign, body, defers := w.heap.size } := ⟨_, rfl⟩
  obtain ⟨W1, hW1⟩ : ∃ W1, (w.alloc (.deferred (some []))).alloc (.loop (rec .ready)) = W1 := ⟨_, rfl⟩
  have kL : W1.heap[w.heap.size + 1]? = some (.loop (rec .ready)) := by
    have := World.alloc_heap_new (w.alloc (.deferred (some []))) (.loop (rec .ready))
    rw [World.size_alloc] at this
    rwa [← hW1]
  have kD : W1.heap[w.heap.size]? = some (.deferred (some [])) := by
    rw [← hW1]
    exact (Below.heap_alloc _ _ _ (by simp)).trans (World.alloc_heap_new w _)
  have kI : I [] W1 := by rw [← hW1]; exact hI.alloc _ (hI.alloc _ h0)
  have kB : Below w.heap.size w W1 := by rw [← hW1]; exact ((Below.refl _ w).alloc (Nat.le_refl _) _).alloc (by simp) _
  refine ⟨w.heap.size + 1, [{ target := .collected w.heap.size, args := #[] }], W1, { target := .fn (.func gf) lb, args := #[.func (.yield (w.heap.size + 1)) #[] #[]] }, W1, gf,
    #[.func (.yield (w.heap.size + 1)) #[] #[]] ++ lb, W1, ?_, ?_, (fun _ _ => trivial), ?_, (fun _ => h1), ?_⟩
  · rw [← hW1, hrec]; exact run_enterLoop_outer _ _ _ _ _
  · simp only [resolve, hg]
    simp [go_sem]
  · simp [invoke, go_sem, eg]
  · refine (hseq (w.heap.size + 1) (fun pre W => I pre W ∧ W.heap[w.heap.size + 1]? = some (.loop (rec .ready)) ∧ W.heap[w.heap.size]? = some (.deferred (some []))) W1 kB ⟨kI, kL, kD⟩ ?_ ?_).mono ?_
    · intro W' hW'
      exact ⟨hT _ _ kI hW', (hW'.1.block _ (Array.getElem?_eq_some_iff.1 kL).1 (fun h => by have := Option.some.inj h; omega)).trans kL, (hW'.1.block _ (Array.getElem?_eq_some_iff.1 kD).1 (fun h => by have := Option.some.inj h; omega)).trans kD⟩
    · rintro pre x rest W hx ⟨hi, hl, hk⟩
      have hlt : w.heap.size + 1 < W.heap.size := (Array.getElem?_eq_some_iff.1 hl).1
      have hy := run_yield (P := Ybad.prog) (args := #[enc x]) hl (by rw [hrec]; rfl)
      rw [hrec] at hy
      refine ⟨fn, _, assign, body, hy, roundIn_of_wpIn hfn ?_⟩
      have ht : ((#[p] : Array Tmp).zip #[enc x]).foldl (fun tmps x => match x with | (t, v) => tmps.setIfInBounds t v) a.tmps = a.tmps.setIfInBounds p (enc x) := by simp
      dsimp only
      rw [ht]
      refine hassign _ x W _ ?_
      refine ⟨_, run_beginRound hl (by rw [hrec]), ?_⟩
      have hl2 : (W.putObj (w.heap.size + 1) (.loop { rec .ready with state := .busy })).heap[w.heap.size + 1]? = some (.loop { rec .ready with state := .busy }) := World.putObj_heap_same hlt
      have hk2 : (W.putObj (w.heap.size + 1) (.loop { rec .ready with state := .busy })).heap[w.heap.size]? = some (.deferred (some [])) := (World.putObj_heap_other (by omega)).trans hk
      have put : ∀ (V : World) (o : Obj), Below n₀ V (V.putObj (w.heap.size + 1) o) := fun V o => ⟨rfl, rfl, rfl, by show V.heap.size ≤ (V.heap.setIfInBounds _ o).size; simp, fun k hk => World.putObj_heap_other (by omega)⟩
      refine wpIn_mono (hbody _ pre x rest _ hx (hI.putObj _ hi (by omega) hl rfl)) ?_
      rintro e a3 W3 hp
      cases e with
      | normal =>
        obtain ⟨hk3, hb3, hi3⟩ := hp
        have hl3 := hk3.same _ _ (by omega) hl2 rfl
        have hend := run_endRound (P := Ybad.prog) none hl3
        rw [hrec] at hend hl3
        refine ⟨_, _, hend, rfl, ⟨hI.putObj _ hi3 (by omega) hl3 rfl, ?_, (World.putObj_heap_other (by omega)).trans (hk3.same _ _ (Nat.le_refl _) hk2 rfl)⟩, (put _ _).trans (hb3.trans (put _ _))⟩
        rw [hrec]
        exact World.putObj_heap_same (Array.getElem?_eq_some_iff.1 hl3).1
      | ret => exact hp.elim
      | exit id => exact hp.elim
      | goto t => exact hp.elim
      | panic ch => exact hp.elim
      | outgrown => exact hp.elim
    · rintro e W2 ⟨⟨v, rfl⟩, hi, hl, hk⟩
      exact ⟨none, _, by have := run_endLoop (P := Ybad.prog) hl (by rw [hrec]; simp); rw [hrec] at this; exact this, hdone _ _ (Nat.le_refl _) (hI.putObj _ hi (by omega) hl rfl) ((World.putObj_heap_other (by omega)).trans hk)⟩

end Go.Proofs.YbulkavwiDoor
