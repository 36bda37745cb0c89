/-
  A region that draws its order, in a round: by a table of what each operation gives.
-/
import Derived.Test.YbulkavwiDoorR14
namespace Go.Proofs.YbulkavwiDoor
open Go.RowKit
set_option linter.unusedSimpArgs false
set_option linter.unusedVariables false

/-- Operation k is done. -/
def also (f : Nat → Bool) (k : Nat) : Nat → Bool := fun i => if k = i then true else f i

structure StG (n T : Nat) (ins : List (Nat × Value)) (sl : Nat → Option Nat) (vals : Nat → Value) (dep : Nat → List Nat) (stage : (Nat → Bool) → World) (listed : Array Bool) (a : Act) (w : World) : Prop where
  size : listed.size = n
  tmps : a.tmps.size = T
  ins : ∀ t v, (t, v) ∈ ins → a.eval (.tmp t) = v
  out : ∀ k t, listed.getD k false = true → sl k = some t → a.eval (.tmp t) = vals k
  closed : ∀ k j, listed.getD k false = true → j ∈ dep k → listed.getD j false = true
  world : w = stage (fun k => listed.getD k false)

/-- What is asked of operation k. -/
def Does (ops : Array Oper) (ins : List (Nat × Value)) (sl : Nat → Option Nat) (vals : Nat → Value) (dep : Nat → List Nat) (stage : (Nat → Bool) → World) (k : Nat) : Prop :=
  ∃ o, ops[k]? = some o ∧ o.dst = sl k ∧ o.guard = none ∧ (∀ c, o.op ≠ .defer c) ∧
    ∀ (f : Nat → Bool) (a : Act), (∀ t v, (t, v) ∈ ins → a.eval (.tmp t) = v) → (∀ j t, j ∈ dep k → sl j = some t → a.eval (.tmp t) = vals j) → f k = false → (∀ j, j ∈ dep k → f j = true) → (∀ i j, f i = true → j ∈ dep i → f j = true) →
      o.about Ybad.prog (stage f) a.eval = none ∧
      ((∃ t, sl k = some t) ∧ (execOp a.eval o).run Ybad.prog (stage f) = .ok (.value (vals k)) (stage (also f k)) ∨ sl k = none ∧ (execOp a.eval o).run Ybad.prog (stage f) = .ok .skip (stage (also f k)))

theorem getD_lt {listed : Array Bool} {k : Nat} (h : listed.getD k false = true) : k < listed.size := by
  rw [Array.getD_eq_getD_getElem?] at h
  by_cases hk : k < listed.size
  · exact hk
  · rw [Array.getElem?_eq_none (by omega)] at h
    cases h

theorem StG.step {F : Fence} {m n T : Nat} {Q : Exit → Act → World → Prop} {ops : Array Oper} {ins : List (Nat × Value)} {sl : Nat → Option Nat} {vals : Nat → Value} {dep : Nat → List Nat} {stage : (Nat → Bool) → World} (hsz : ops.size = n)
    (hdoes : ∀ k, k < n → Does ops ins sl vals dep stage k) (hafter : ∀ k, k < n → ∀ j, j ∈ dep k → After ops k j)
    (hinj : ∀ k k' t, k < n → k' < n → sl k = some t → sl k' = some t → k = k') (hins : ∀ k t v, k < n → sl k = some t → (t, v) ∈ ins → False) (hT : ∀ k t, k < n → sl k = some t → t < T)
    (listed : Array Bool) (a : Act) (w : World) (i : Nat) (st : StG n T ins sl vals dep stage listed a w) (hi : i ∈ Region.ready .any ops listed) :
    wpOpIn F m Ybad.prog ops Q i (StG n T ins sl vals dep stage (listed.setIfInBounds i true)) a w := by
  obtain ⟨h1, h2, h3⟩ := ready_of hi
  have hf := getD_tf st.size (by omega) h2
  have hs : ∀ j, (listed.setIfInBounds i true).getD j false = if i = j then true else listed.getD j false := fun j => getD_set listed i j true false (by rw [st.size]; omega)
  obtain ⟨o, ho, hdst, hg, hd, hrun⟩ := hdoes i (by omega)
  have hdep : ∀ j, j ∈ dep i → listed.getD j false = true := fun j hj => hafter i (by omega) j hj listed h3
  obtain ⟨hab, hr⟩ := hrun (fun k => listed.getD k false) a st.ins (fun j t hj ht => st.out j t (hdep j hj) ht) hf hdep st.closed
  have hal : also (fun k => listed.getD k false) i = fun k => (listed.setIfInBounds i true).getD k false := by
    funext k
    rw [hs]
    rfl
  rw [hal] at hr
  rw [← st.world] at hab hr
  rcases hr with ⟨⟨t, ht⟩, hr⟩ | ⟨ht, hr⟩
  · refine op_runs ho hg hd hab hr ?_
    rw [hdst, ht]
    have ev : ∀ j, j ≠ t → (a.put (some t) (vals i)).eval (.tmp j) = a.eval (.tmp j) := fun j h => Act.eval_put_ne a t j _ h.symm
    have evs : (a.put (some t) (vals i)).eval (.tmp t) = vals i := Act.eval_put_same a t _ (by rw [st.tmps]; exact hT i t (by omega) ht)
    refine ⟨by simp [st.size], by simp [Act.put, st.tmps], ?_, ?_, ?_, rfl⟩
    · intro t' v hm
      rw [ev t' (fun e => hins i t v (by omega) ht (e ▸ hm))]
      exact st.ins t' v hm
    · intro k t' hk ht'
      rw [hs] at hk
      by_cases e : i = k
      · subst e
        rw [ht] at ht'
        cases ht'
        exact evs
      · simp only [e, if_false] at hk
        have lk : k < n := by rw [← st.size]; exact getD_lt hk
        rw [ev t' (fun e' => e (hinj i k t (by omega) lk ht (e' ▸ ht')))]
        exact st.out k t' hk ht'
    · intro k j hk hj
      rw [hs] at hk ⊢
      by_cases e : i = k
      · subst e
        rw [hdep j hj]
        simp
      · simp only [e, if_false] at hk
        rw [st.closed k j hk hj]
        simp
  · refine op_skips ho hg hd hab hr ?_
    rw [hdst, ht]
    refine ⟨by simp [st.size], st.tmps, st.ins, ?_, ?_, rfl⟩
    · intro k t' hk ht'
      rw [hs] at hk
      by_cases e : i = k
      · subst e
        rw [ht] at ht'
        cases ht'
      · simp only [e, if_false] at hk
        exact st.out k t' hk ht'
    · intro k j hk hj
      rw [hs] at hk ⊢
      by_cases e : i = k
      · subst e
        rw [hdep j hj]
        simp
      · simp only [e, if_false] at hk
        rw [st.closed k j hk hj]
        simp

/-- **The law.** -/
theorem region_tab {F : Fence} {m id n T : Nat} {Q : Exit → Act → World → Prop} {a : Act} {W : World} {ops : Array Oper} {ins : List (Nat × Value)} {sl : Nat → Option Nat} {vals : Nat → Value} {dep : Nat → List Nat} {stage : (Nat → Bool) → World} (hsz : ops.size = n)
    (hdoes : ∀ k, k < n → Does ops ins sl vals dep stage k) (hafter : ∀ k, k < n → ∀ j, j ∈ dep k → After ops k j)
    (hinj : ∀ k k' t, k < n → k' < n → sl k = some t → sl k' = some t → k = k') (hins : ∀ k t v, k < n → sl k = some t → (t, v) ∈ ins → False) (hT : ∀ k t, k < n → sl k = some t → t < T)
    (hmay : ∀ k, k < n → ∀ listed : Array Bool, (∀ j, j < k → listed.getD j false = true) → may ops k listed = true)
    (hstart : stage (fun _ => false) = W.drew) (hTs : a.tmps.size = T) (hi : ∀ t v, (t, v) ∈ ins → a.eval (.tmp t) = v)
    (hQ : ∀ (f : Nat → Bool) a', (∀ k, k < n → f k = true) → Q .normal a' (stage f)) :
    (Code.region id ops true).wpIn F m Ybad.prog Q a W := by
  refine wpIn_region_any (by kernel_rfl) (any_inv (StG n T ins sl vals dep stage) (fun _ _ _ st => st.size.trans hsz.symm)
    (fun listed a w i st hi => StG.step hsz hdoes hafter hinj hins hT listed a w i st hi) ?_ ops.size _ a _ ?_ (left_le _ _))
  · intro listed a' w' st hr
    have all : ∀ k, k ≤ n → ∀ j, j < k → listed.getD j false = true := by
      intro k
      induction k with
      | zero => intro _ j hj; omega
      | succ k ih =>
        intro hk j hj
        by_cases e : j = k
        · subst e
          cases h : listed.getD j false with
          | true => rfl
          | false =>
            have := in_ready hsz st.size (by omega) h (hmay j (by omega) listed (ih (by omega)))
            rw [hr] at this
            cases this
        · exact ih (by omega) j (by omega)
    rw [st.world]
    exact hQ _ a' (fun k hk => all n (Nat.le_refl _) k hk)
  · rw [hsz]
    have hf : ∀ i, (Array.replicate n false).getD i false = false := fun i => by
      simp only [Array.getD_eq_getD_getElem?, Array.getElem?_replicate]
      split <;> rfl
    refine ⟨by simp, hTs, hi, ?_, ?_, ?_⟩
    · intro k t hk
      rw [hf] at hk
      cases hk
    · intro k j hk
      rw [hf] at hk
      cases hk
    · have e : (fun k => (Array.replicate n false).getD k false) = fun _ => false := funext hf
      rw [e, hstart]
      rfl

end Go.Proofs.YbulkavwiDoor
