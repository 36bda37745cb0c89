/-
  A region that draws its order, in a round: by an invariant over the operations that are done.
-/
import Derived.Test.YbulkavwiDoorKeys
import Derived.Great.Frames
namespace Go.Proofs.YbulkavwiDoor
open Go.RowKit
set_option linter.unusedSimpArgs false
set_option linter.unusedVariables false

/-- How many are still to be done. -/
def left (m : Nat) (listed : Array Bool) : Nat := (List.range m).countP fun i => !listed.getD i true

theorem getD_set (listed : Array Bool) (i j : Nat) (b c : Bool) (hi : i < listed.size) : (listed.setIfInBounds i b).getD j c = if i = j then b else listed.getD j c := by
  simp only [Array.getD_eq_getD_getElem?, Array.getElem?_setIfInBounds]
  by_cases h : i = j
  · subst h
    simp [hi]
  · simp [h]

theorem left_set (listed : Array Bool) (i : Nat) (hi : i < listed.size) (hf : listed.getD i true = false) : ∀ m, left m (listed.setIfInBounds i true) + (if i < m then 1 else 0) = left m listed
  | 0 => rfl
  | m + 1 => by
    have ih := left_set listed i hi hf m
    unfold left at ih ⊢
    rw [List.range_succ, List.countP_append, List.countP_append]
    simp only [List.countP_singleton, getD_set listed i m true true hi]
    by_cases h : i = m
    · subst h
      simp only [hf, if_true, Bool.not_true, Bool.not_false, Nat.lt_irrefl, if_false, Bool.false_eq_true, Nat.lt_succ_self] at ih ⊢
      omega
    · simp only [h, if_false]
      by_cases h2 : i < m
      · have h3 : i < m + 1 := by omega
        simp only [h2, h3, if_true] at ih ⊢
        omega
      · have h3 : ¬ i < m + 1 := by omega
        simp only [h2, h3, if_false] at ih ⊢
        omega

theorem ready_of {md : Region.Mode} {ops : Array Oper} {listed : Array Bool} {i : Nat} (h : i ∈ Region.ready md ops listed) :
    i < ops.size ∧ listed.getD i true = false ∧ ((ops[i]?).map (·.after.all fun e => !Region.binds md e || listed.getD e.on false)).getD false = true := by
  unfold Region.ready at h
  simp only [List.mem_filter, List.mem_range, Bool.and_eq_true, Bool.not_eq_true'] at h
  exact ⟨h.1, h.2.1, h.2.2⟩

/-- **The law.** -/
theorem any_inv {F : Fence} {n : Nat} {P : Program} {md : Region.Mode} {ops : Array Oper} {Q : Exit → Act → World → Prop} (Inv : Array Bool → Act → World → Prop)
    (hsize : ∀ listed a w, Inv listed a w → listed.size = ops.size)
    (hstep : ∀ listed a w i, Inv listed a w → i ∈ Region.ready md ops listed → wpOpIn F n P ops Q i (Inv (listed.setIfInBounds i true)) a w)
    (hend : ∀ listed a w, Inv listed a w → Region.ready md ops listed = [] → Q .normal a w) :
    ∀ (fuel : Nat) (listed : Array Bool) (a : Act) (w : World), Inv listed a w → left ops.size listed ≤ fuel → wpAnyIn F n P md ops Q fuel listed a w
  | 0, listed, a, w, h, hl => by
    have hr : Region.ready md ops listed = [] := by
      apply List.eq_nil_iff_forall_not_mem.2
      intro i hi
      obtain ⟨h1, h2, -⟩ := ready_of hi
      have := left_set listed i (by rw [hsize _ _ _ h]; exact h1) h2 ops.size
      simp only [h1, if_true] at this
      omega
    exact ⟨hr, hend _ _ _ h hr⟩
  | fuel + 1, listed, a, w, h, hl => by
    refine ⟨fun hr => hend _ _ _ h hr, fun i hi => ?_⟩
    refine wpOpIn_mono (fun a' w' h' => any_inv Inv hsize hstep hend fuel _ a' w' h' ?_) (hstep _ _ _ _ h hi)
    obtain ⟨h1, h2, -⟩ := ready_of hi
    have := left_set listed i (by rw [hsize _ _ _ h]; exact h1) h2 ops.size
    simp only [h1, if_true] at this
    omega

/-- An operation that is no call, in whatever fence and round. -/
theorem op_runs {F : Fence} {n : Nat} {P : Program} {ops : Array Oper} {Q : Exit → Act → World → Prop} {i : Nat} {o : Oper} {a : Act} {w w' : World} {v : Value} {K : Act → World → Prop}
    (ho : ops[i]? = some o) (hg : o.guard = none) (hd : ∀ c, o.op ≠ .defer c) (hab : o.about P w a.eval = none) (hr : (execOp a.eval o).run P w = .ok (.value v) w') (hK : K (a.put o.dst v) w') : wpOpIn F n P ops Q i K a w := by
  unfold wpOpIn
  rw [ho]
  have hw : Region.wanted o (yielded ops a.tmps) = true := by unfold Region.wanted; rw [hg]
  simp only [hw, if_true]
  refine ⟨(fun f hf => by rw [hab] at hf; cases hf), ?_⟩
  rw [Oper.semAt_plain F _ _ hd, hr]
  exact hK
theorem op_skips {F : Fence} {n : Nat} {P : Program} {ops : Array Oper} {Q : Exit → Act → World → Prop} {i : Nat} {o : Oper} {a : Act} {w w' : World} {K : Act → World → Prop}
    (ho : ops[i]? = some o) (hg : o.guard = none) (hd : ∀ c, o.op ≠ .defer c) (hab : o.about P w a.eval = none) (hr : (execOp a.eval o).run P w = .ok .skip w') (hK : K (a.put o.dst undef) w') : wpOpIn F n P ops Q i K a w := by
  unfold wpOpIn
  rw [ho]
  have hw : Region.wanted o (yielded ops a.tmps) = true := by unfold Region.wanted; rw [hg]
  simp only [hw, if_true]
  refine ⟨(fun f hf => by rw [hab] at hf; cases hf), ?_⟩
  rw [Oper.semAt_plain F _ _ hd, hr]
  exact hK

end Go.Proofs.YbulkavwiDoor
