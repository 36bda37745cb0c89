/-
  'entries[""] = append(entries[""], entry)' in a round, in whatever order.
-/
import Derived.Test.YbulkavwiDoorOps
namespace Go.Proofs.YbulkavwiDoor
open Go.RowKit
set_option linter.unusedSimpArgs false
set_option linter.unusedVariables false

/-- What binds operation k comes first. -/
def After (ops : Array Oper) (k j : Nat) : Prop := ∀ listed : Array Bool, ((ops[k]?).map (·.after.all fun e => !Region.binds .any e || listed.getD e.on false)).getD false = true → listed.getD j false = true

/-- An operation as it stands. -/
def Is (ops : Array Oper) (k : Nat) (dst : Option Tmp) (op : Op) (type : TypeId) : Prop := ∃ o, ops[k]? = some o ∧ o.dst = dst ∧ o.op = op ∧ o.guard = none ∧ o.type = type

/-- The state of region 14. -/
structure St14 (bm c12 x : Nat) (v v' : Value) (W W' Wf : World) (listed : Array Bool) (a : Act) (w : World) : Prop where
  size : listed.size = 7
  tmps : a.tmps.size = 98
  e12 : a.eval (.tmp 12) = .pointer (some ⟨c12, 0, none⟩)
  e13 : a.eval (.tmp 13) = .pointer (some ⟨x, 0, none⟩)
  e65 : listed.getD 0 false = true → a.eval (.tmp 65) = .map (some bm)
  e66 : listed.getD 1 false = true → a.eval (.tmp 66) = .map (some bm)
  e67 : listed.getD 2 false = true → a.eval (.tmp 67) = v
  e68 : listed.getD 3 false = true → a.eval (.tmp 68) = .pointer (some ⟨x, 0, none⟩)
  e69 : listed.getD 4 false = true → a.eval (.tmp 69) = .slice (some ⟨W.heap.size, 0, none⟩) 1 1
  e70 : listed.getD 5 false = true → a.eval (.tmp 70) = v'
  d5 : listed.getD 5 false = true → listed.getD 4 false = true ∧ listed.getD 2 false = true
  d6 : listed.getD 6 false = true → listed.getD 5 false = true ∧ listed.getD 0 false = true
  d2 : listed.getD 2 false = true → listed.getD 1 false = true
  d4 : listed.getD 4 false = true → listed.getD 3 false = true
  world : w = if listed.getD 6 false = true then Wf else if listed.getD 5 false = true then W' else if listed.getD 4 false = true then (W.alloc (.cells #[.pointer (some ⟨x, 0, none⟩)] 39)).drew else W.drew

theorem getD_tf {listed : Array Bool} {i n : Nat} (hs : listed.size = n) (hi : i < n) (h : listed.getD i true = false) : listed.getD i false = false := by
  rw [Array.getD_eq_getD_getElem?, Array.getElem?_eq_getElem (by omega)] at h ⊢
  exact h

theorem St14.start {bm c12 x : Nat} {v v' : Value} {W W' Wf : World} {a : Act} (hT : a.tmps.size = 98) (h12 : a.eval (.tmp 12) = .pointer (some ⟨c12, 0, none⟩)) (h13 : a.eval (.tmp 13) = .pointer (some ⟨x, 0, none⟩)) :
    St14 bm c12 x v v' W W' Wf (Array.replicate 7 false) a W.drew := by
  have hf : ∀ i, (Array.replicate 7 false).getD i false = false := fun i => by simp [Array.getD_eq_getD_getElem?, Array.getElem?_replicate]; split <;> rfl
  refine ⟨by simp, hT, h12, h13, ?_, ?_, ?_, ?_, ?_, ?_, ?_, ?_, ?_, ?_, ?_⟩
  all_goals simp [hf]

theorem about_none {o : Oper} {P : Program} {w : World} {ρ : Operand → Value} (h : ∀ c, o.op ≠ .call c) (h2 : ∀ c, o.op ≠ .defer c) (h3 : ∀ c, o.op ≠ .go c) : o.about P w ρ = none := by
  unfold Oper.about
  cases ho : o.op <;> simp_all

theorem St14.step {F : Fence} {n : Nat} {Q : Exit → Act → World → Prop} {ops : Array Oper} {bm c12 x : Nat} {v v' : Value} {W W' Wf : World} (hsz : ops.size = 7)
    (i0 : Is ops 0 (some 65) (.load 49 (.tmp 12)) 49) (i1 : Is ops 1 (some 66) (.load 49 (.tmp 12)) 49) (i2 : Is ops 2 (some 67) (.lookup 49 (.tmp 66) (.const (.string ⟨#[]⟩)) false) 40) (i3 : Is ops 3 (some 68) (.move (.tmp 13)) 39)
    (i4 : Is ops 4 (some 69) (.buildSlice 40 1 #[(0, .tmp 68)]) 40) (i5 : Is ops 5 (some 70) (.call { callee := .builtin .append, args := #[.tmp 67, .tmp 69], argTypes := #[40, 40] }) 40) (i6 : Is ops 6 none (.mapUpdate 49 (.tmp 65) (.const (.string ⟨#[]⟩)) (.tmp 70)) 0)
    (p2 : After ops 2 1) (p4 : After ops 4 3) (p5 : After ops 5 2) (p5' : After ops 5 4) (p6 : After ops 6 5) (p6' : After ops 6 0)
    (c0 : W.cell? ⟨c12, 0, none⟩ = some (.map (some bm))) (c1 : (W.alloc (.cells #[.pointer (some ⟨x, 0, none⟩)] 39)).drew.cell? ⟨c12, 0, none⟩ = some (.map (some bm))) (c2 : W'.cell? ⟨c12, 0, none⟩ = some (.map (some bm)))
    (qL : (Instr.lookup 49 (.map (some bm)) (.string ⟨#[]⟩) false).run Ybad.prog W.drew = .ok v W.drew) (qL2 : (Instr.lookup 49 (.map (some bm)) (.string ⟨#[]⟩) false).run Ybad.prog (W.alloc (.cells #[.pointer (some ⟨x, 0, none⟩)] 39)).drew = .ok v (W.alloc (.cells #[.pointer (some ⟨x, 0, none⟩)] 39)).drew)
    (qA : (Builtin.append_ #[40, 40] 40 #[v, .slice (some ⟨W.heap.size, 0, none⟩) 1 1]).run Ybad.prog (W.alloc (.cells #[.pointer (some ⟨x, 0, none⟩)] 39)).drew = .ok v' W')
    (qU : (Instr.mapUpdate 49 (.map (some bm)) (.string ⟨#[]⟩) v').run Ybad.prog W' = .ok () Wf)
    (listed : Array Bool) (a : Act) (w : World) (i : Nat) (st : St14 bm c12 x v v' W W' Wf listed a w) (hi : i ∈ Region.ready .any ops listed) :
    wpOpIn F n Ybad.prog ops Q i (St14 bm c12 x v v' W W' Wf (listed.setIfInBounds i true)) a w := by
  obtain ⟨h1, h2, h3⟩ := ready_of hi
  have hf := getD_tf st.size (by omega) h2
  have hs : ∀ j, (listed.setIfInBounds i true).getD j false = if i = j then true else listed.getD j false := fun j => getD_set listed i j true false (by rw [st.size]; omega)
  have hcase : i = 0 ∨ i = 1 ∨ i = 2 ∨ i = 3 ∨ i = 4 ∨ i = 5 ∨ i = 6 := by omega
  rcases hcase with rfl | rfl | rfl | rfl | rfl | rfl | rfl
  · obtain ⟨o, ho, hdst, hop, hg, -⟩ := i0
    have h6 : listed.getD 6 false = false := by
      cases h : listed.getD 6 false with
      | false => rfl
      | true => have := (st.d6 h).2; rw [hf] at this; cases this
    have hw : w.cell? ⟨c12, 0, none⟩ = some (.map (some bm)) := by
      rw [st.world, h6]
      simp only [Bool.false_eq_true, if_false]
      split
      · exact c2
      · split
        · exact c1
        · exact c0
    refine op_runs ho hg (by rw [hop]; simp) (about_none (by rw [hop]; simp) (by rw [hop]; simp) (by rw [hop]; simp)) (x_load49 hop st.e12 hw) ?_
    rw [hdst]
    have ev : ∀ j, j ≠ 65 → (a.put (some 65) (.map (some bm))).eval (.tmp j) = a.eval (.tmp j) := fun j h => Act.eval_put_ne a 65 j _ h.symm
    have evs : (a.put (some 65) (.map (some bm))).eval (.tmp 65) = .map (some bm) := Act.eval_put_same a 65 _ (by rw [st.tmps]; decide)
    refine ⟨by simp [st.size], by simp [Act.put, st.tmps], (ev 12 (by decide)).trans st.e12, (ev 13 (by decide)).trans st.e13, fun _ => evs, fun h => (ev 66 (by decide)).trans (st.e66 (by simpa [hs] using h)), fun h => (ev 67 (by decide)).trans (st.e67 (by simpa [hs] using h)), fun h => (ev 68 (by decide)).trans (st.e68 (by simpa [hs] using h)), fun h => (ev 69 (by decide)).trans (st.e69 (by simpa [hs] using h)), fun h => (ev 70 (by decide)).trans (st.e70 (by simpa [hs] using h)), ?_, ?_, ?_, ?_, ?_⟩
    · simpa [hs] using st.d5
    · intro h
      have := st.d6 (by simpa [hs] using h)
      simp [hs, this]
    · simpa [hs] using st.d2
    · simpa [hs] using st.d4
    · simpa [hs] using st.world
  · obtain ⟨o, ho, hdst, hop, hg, hty⟩ := i1
    have f2 : listed.getD 2 false = false := by
      cases h : listed.getD 2 false with
      | false => rfl
      | true => have := st.d2 h; rw [hf] at this; cases this
    have f5 : listed.getD 5 false = false := by
      cases h : listed.getD 5 false with
      | false => rfl
      | true => have := (st.d5 h).2; rw [f2] at this; cases this
    have f6 : listed.getD 6 false = false := by
      cases h : listed.getD 6 false with
      | false => rfl
      | true => have := (st.d6 h).1; rw [f5] at this; cases this
    have hw : w.cell? ⟨c12, 0, none⟩ = some (.map (some bm)) := by
      rw [st.world, f6, f5]
      simp only [Bool.false_eq_true, if_false]
      split
      · exact c1
      · exact c0
    refine op_runs ho hg (by rw [hop]; simp) (about_none (by rw [hop]; simp) (by rw [hop]; simp) (by rw [hop]; simp)) (x_load49 hop st.e12 hw) ?_
    rw [hdst]
    have ev : ∀ j, j ≠ 66 → (a.put (some 66) (.map (some bm))).eval (.tmp j) = a.eval (.tmp j) := fun j h => Act.eval_put_ne a 66 j _ h.symm
    have evs : (a.put (some 66) (.map (some bm))).eval (.tmp 66) = .map (some bm) := Act.eval_put_same a 66 _ (by rw [st.tmps]; decide)
    refine ⟨by simp [st.size], by simp [Act.put, st.tmps], (ev 12 (by decide)).trans st.e12, (ev 13 (by decide)).trans st.e13, fun h => (ev 65 (by decide)).trans (st.e65 (by simpa [hs] using h)), fun _ => evs, fun h => (ev 67 (by decide)).trans (st.e67 (by simpa [hs] using h)), fun h => (ev 68 (by decide)).trans (st.e68 (by simpa [hs] using h)), fun h => (ev 69 (by decide)).trans (st.e69 (by simpa [hs] using h)), fun h => (ev 70 (by decide)).trans (st.e70 (by simpa [hs] using h)), ?_, ?_, ?_, ?_, ?_⟩
    · simpa [hs] using st.d5
    · simpa [hs] using st.d6
    · simp [hs]
    · simpa [hs] using st.d4
    · simpa [hs] using st.world
  · obtain ⟨o, ho, hdst, hop, hg, hty⟩ := i2
    have f5 : listed.getD 5 false = false := by
      cases h : listed.getD 5 false with
      | false => rfl
      | true => have := (st.d5 h).2; rw [hf] at this; cases this
    have f6 : listed.getD 6 false = false := by
      cases h : listed.getD 6 false with
      | false => rfl
      | true => have := (st.d6 h).1; rw [f5] at this; cases this
    have l1 := p2 listed h3
    have hr : (Instr.lookup 49 (.map (some bm)) (.string ⟨#[]⟩) false).run Ybad.prog w = .ok v w := by
      rw [st.world, f6, f5]
      simp only [Bool.false_eq_true, if_false]
      split
      · exact qL2
      · exact qL
    refine op_runs ho hg (by rw [hop]; simp) (about_none (by rw [hop]; simp) (by rw [hop]; simp) (by rw [hop]; simp)) (x_lookup49 hop (st.e66 l1) rfl hr) ?_
    rw [hdst]
    have ev : ∀ j, j ≠ 67 → (a.put (some 67) (v)).eval (.tmp j) = a.eval (.tmp j) := fun j h => Act.eval_put_ne a 67 j _ h.symm
    have evs : (a.put (some 67) (v)).eval (.tmp 67) = v := Act.eval_put_same a 67 _ (by rw [st.tmps]; decide)
    refine ⟨by simp [st.size], by simp [Act.put, st.tmps], (ev 12 (by decide)).trans st.e12, (ev 13 (by decide)).trans st.e13, fun h => (ev 65 (by decide)).trans (st.e65 (by simpa [hs] using h)), fun h => (ev 66 (by decide)).trans (st.e66 (by simpa [hs] using h)), fun _ => evs, fun h => (ev 68 (by decide)).trans (st.e68 (by simpa [hs] using h)), fun h => (ev 69 (by decide)).trans (st.e69 (by simpa [hs] using h)), fun h => (ev 70 (by decide)).trans (st.e70 (by simpa [hs] using h)), ?_, ?_, ?_, ?_, ?_⟩
    · intro h
      have := st.d5 (by simpa [hs] using h)
      simp [hs, this]
    · simpa [hs] using st.d6
    · intro _
      simp [hs, l1]
    · simpa [hs] using st.d4
    · simpa [hs] using st.world
  · obtain ⟨o, ho, hdst, hop, hg, hty⟩ := i3
    refine op_runs ho hg (by rw [hop]; simp) (about_none (by rw [hop]; simp) (by rw [hop]; simp) (by rw [hop]; simp)) (x_move hop st.e13) ?_
    rw [hdst]
    have ev : ∀ j, j ≠ 68 → (a.put (some 68) (.pointer (some ⟨x, 0, none⟩))).eval (.tmp j) = a.eval (.tmp j) := fun j h => Act.eval_put_ne a 68 j _ h.symm
    have evs : (a.put (some 68) (.pointer (some ⟨x, 0, none⟩))).eval (.tmp 68) = .pointer (some ⟨x, 0, none⟩) := Act.eval_put_same a 68 _ (by rw [st.tmps]; decide)
    refine ⟨by simp [st.size], by simp [Act.put, st.tmps], (ev 12 (by decide)).trans st.e12, (ev 13 (by decide)).trans st.e13, fun h => (ev 65 (by decide)).trans (st.e65 (by simpa [hs] using h)), fun h => (ev 66 (by decide)).trans (st.e66 (by simpa [hs] using h)), fun h => (ev 67 (by decide)).trans (st.e67 (by simpa [hs] using h)), fun _ => evs, fun h => (ev 69 (by decide)).trans (st.e69 (by simpa [hs] using h)), fun h => (ev 70 (by decide)).trans (st.e70 (by simpa [hs] using h)), ?_, ?_, ?_, ?_, ?_⟩
    · simpa [hs] using st.d5
    · simpa [hs] using st.d6
    · simpa [hs] using st.d2
    · simp [hs]
    · simpa [hs] using st.world
  · obtain ⟨o, ho, hdst, hop, hg, hty⟩ := i4
    have f5 : listed.getD 5 false = false := by
      cases h : listed.getD 5 false with
      | false => rfl
      | true => have := (st.d5 h).1; rw [hf] at this; cases this
    have f6 : listed.getD 6 false = false := by
      cases h : listed.getD 6 false with
      | false => rfl
      | true => have := (st.d6 h).1; rw [f5] at this; cases this
    have l3 := p4 listed h3
    have hw : w = W.drew := by rw [st.world, f6, f5, hf]; simp
    subst hw
    refine op_runs ho hg (by rw [hop]; simp) (about_none (by rw [hop]; simp) (by rw [hop]; simp) (by rw [hop]; simp)) (x_build hop (st.e68 l3)) ?_
    rw [hdst]
    have ev : ∀ j, j ≠ 69 → (a.put (some 69) (.slice (some ⟨W.heap.size, 0, none⟩) 1 1)).eval (.tmp j) = a.eval (.tmp j) := fun j h => Act.eval_put_ne a 69 j _ h.symm
    have evs : (a.put (some 69) (.slice (some ⟨W.heap.size, 0, none⟩) 1 1)).eval (.tmp 69) = .slice (some ⟨W.heap.size, 0, none⟩) 1 1 := Act.eval_put_same a 69 _ (by rw [st.tmps]; decide)
    refine ⟨by simp [st.size], by simp [Act.put, st.tmps], (ev 12 (by decide)).trans st.e12, (ev 13 (by decide)).trans st.e13, fun h => (ev 65 (by decide)).trans (st.e65 (by simpa [hs] using h)), fun h => (ev 66 (by decide)).trans (st.e66 (by simpa [hs] using h)), fun h => (ev 67 (by decide)).trans (st.e67 (by simpa [hs] using h)), fun h => (ev 68 (by decide)).trans (st.e68 (by simpa [hs] using h)), fun _ => evs, fun h => (ev 70 (by decide)).trans (st.e70 (by simpa [hs] using h)), ?_, ?_, ?_, ?_, ?_⟩
    · intro h
      have := st.d5 (by simpa [hs] using h)
      simp [hs, this]
    · simpa [hs] using st.d6
    · simpa [hs] using st.d2
    · intro _
      simp [hs, l3]
    · simp [hs, f5, f6]
      rfl
  · obtain ⟨o, ho, hdst, hop, hg, hty⟩ := i5
    have f6 : listed.getD 6 false = false := by
      cases h : listed.getD 6 false with
      | false => rfl
      | true => have := (st.d6 h).1; rw [hf] at this; cases this
    have l2 := p5 listed h3
    have l4 := p5' listed h3
    have hw : w = (W.alloc (.cells #[.pointer (some ⟨x, 0, none⟩)] 39)).drew := by rw [st.world, f6, hf, l4]; simp
    subst hw
    refine op_runs ho hg (by rw [hop]; simp) (by simp [Oper.about, hop, resolve, Target.leads, Sem.run_pure]) (x_append hop hty (st.e67 l2) (st.e69 l4) qA) ?_
    rw [hdst]
    have ev : ∀ j, j ≠ 70 → (a.put (some 70) (v')).eval (.tmp j) = a.eval (.tmp j) := fun j h => Act.eval_put_ne a 70 j _ h.symm
    have evs : (a.put (some 70) (v')).eval (.tmp 70) = v' := Act.eval_put_same a 70 _ (by rw [st.tmps]; decide)
    refine ⟨by simp [st.size], by simp [Act.put, st.tmps], (ev 12 (by decide)).trans st.e12, (ev 13 (by decide)).trans st.e13, fun h => (ev 65 (by decide)).trans (st.e65 (by simpa [hs] using h)), fun h => (ev 66 (by decide)).trans (st.e66 (by simpa [hs] using h)), fun h => (ev 67 (by decide)).trans (st.e67 (by simpa [hs] using h)), fun h => (ev 68 (by decide)).trans (st.e68 (by simpa [hs] using h)), fun h => (ev 69 (by decide)).trans (st.e69 (by simpa [hs] using h)), fun _ => evs, ?_, ?_, ?_, ?_, ?_⟩
    · intro _
      simp [hs, l2, l4]
    · intro h
      have := st.d6 (by simpa [hs] using h)
      simp [hs, this]
    · simpa [hs] using st.d2
    · simpa [hs] using st.d4
    · simp [hs, f6]
  · obtain ⟨o, ho, hdst, hop, hg, hty⟩ := i6
    have l5 := p6 listed h3
    have l0 := p6' listed h3
    have hw : w = W' := by rw [st.world, hf, l5]; simp
    subst hw
    refine op_skips ho hg (by rw [hop]; simp) (about_none (by rw [hop]; simp) (by rw [hop]; simp) (by rw [hop]; simp)) (x_update hop (st.e65 l0) rfl (st.e70 l5) qU) ?_
    rw [hdst]
    refine ⟨by simp [st.size], st.tmps, st.e12, st.e13, fun h => st.e65 (by simpa [hs] using h), fun h => st.e66 (by simpa [hs] using h), fun h => st.e67 (by simpa [hs] using h), fun h => st.e68 (by simpa [hs] using h), fun h => st.e69 (by simpa [hs] using h), fun h => st.e70 (by simpa [hs] using h), ?_, ?_, ?_, ?_, ?_⟩
    · simpa [hs] using st.d5
    · intro _
      simp [hs, l5, l0]
    · simpa [hs] using st.d2
    · simpa [hs] using st.d4
    · simp [hs]

/-- The test by which an operation may come next. -/
def may (ops : Array Oper) (k : Nat) (listed : Array Bool) : Bool := ((ops[k]?).map (·.after.all fun e => !Region.binds .any e || listed.getD e.on false)).getD false

theorem in_ready {ops : Array Oper} {listed : Array Bool} {k n : Nat} (hsz : ops.size = n) (hl : listed.size = n) (hk : k < n) (hf : listed.getD k false = false) (hm : may ops k listed = true) : k ∈ Region.ready .any ops listed := by
  unfold Region.ready
  simp only [List.mem_filter, List.mem_range, Bool.and_eq_true, Bool.not_eq_true']
  refine ⟨by omega, ?_, hm⟩
  rw [Array.getD_eq_getD_getElem?, Array.getElem?_eq_getElem (by omega)] at hf ⊢
  exact hf

theorem left_le (m : Nat) (listed : Array Bool) : left m listed ≤ m := by
  unfold left
  exact Nat.le_trans (List.countP_le_length ..) (by simp)

theorem region14 {F : Fence} {n id : Nat} {Q : Exit → Act → World → Prop} {a : Act} {ops : Array Oper} {bm c12 x : Nat} {v v' : Value} {W W' Wf : World} (hsz : ops.size = 7)
    (i0 : Is ops 0 (some 65) (.load 49 (.tmp 12)) 49) (i1 : Is ops 1 (some 66) (.load 49 (.tmp 12)) 49) (i2 : Is ops 2 (some 67) (.lookup 49 (.tmp 66) (.const (.string ⟨#[]⟩)) false) 40) (i3 : Is ops 3 (some 68) (.move (.tmp 13)) 39)
    (i4 : Is ops 4 (some 69) (.buildSlice 40 1 #[(0, .tmp 68)]) 40) (i5 : Is ops 5 (some 70) (.call { callee := .builtin .append, args := #[.tmp 67, .tmp 69], argTypes := #[40, 40] }) 40) (i6 : Is ops 6 none (.mapUpdate 49 (.tmp 65) (.const (.string ⟨#[]⟩)) (.tmp 70)) 0)
    (p2 : After ops 2 1) (p4 : After ops 4 3) (p5 : After ops 5 2) (p5' : After ops 5 4) (p6 : After ops 6 5) (p6' : After ops 6 0)
    (m : ∀ k, k < 7 → ∀ listed : Array Bool, (∀ j, j < k → listed.getD j false = true) → may ops k listed = true)
    (c0 : W.cell? ⟨c12, 0, none⟩ = some (.map (some bm))) (c1 : (W.alloc (.cells #[.pointer (some ⟨x, 0, none⟩)] 39)).drew.cell? ⟨c12, 0, none⟩ = some (.map (some bm))) (c2 : W'.cell? ⟨c12, 0, none⟩ = some (.map (some bm)))
    (qL : (Instr.lookup 49 (.map (some bm)) (.string ⟨#[]⟩) false).run Ybad.prog W.drew = .ok v W.drew) (qL2 : (Instr.lookup 49 (.map (some bm)) (.string ⟨#[]⟩) false).run Ybad.prog (W.alloc (.cells #[.pointer (some ⟨x, 0, none⟩)] 39)).drew = .ok v (W.alloc (.cells #[.pointer (some ⟨x, 0, none⟩)] 39)).drew)
    (qA : (Builtin.append_ #[40, 40] 40 #[v, .slice (some ⟨W.heap.size, 0, none⟩) 1 1]).run Ybad.prog (W.alloc (.cells #[.pointer (some ⟨x, 0, none⟩)] 39)).drew = .ok v' W')
    (qU : (Instr.mapUpdate 49 (.map (some bm)) (.string ⟨#[]⟩) v').run Ybad.prog W' = .ok () Wf)
    (hT : a.tmps.size = 98) (h12 : a.eval (.tmp 12) = .pointer (some ⟨c12, 0, none⟩)) (h13 : a.eval (.tmp 13) = .pointer (some ⟨x, 0, none⟩)) (hQ : ∀ a', Q .normal a' Wf) :
    (Code.region id ops true).wpIn F n Ybad.prog Q a W := by
  refine wpIn_region_any (by kernel_rfl) (any_inv (St14 bm c12 x v v' W W' Wf) (fun _ _ _ st => st.size.trans hsz.symm)
    (fun listed a w i st hi => St14.step hsz i0 i1 i2 i3 i4 i5 i6 p2 p4 p5 p5' p6 p6' c0 c1 c2 qL qL2 qA qU listed a w i st hi) ?_ ops.size _ a _ ?_ (left_le _ _))
  · intro listed a' w' st hr
    have all : ∀ k, k ≤ 7 → ∀ j, j < k → listed.getD j false = true := by
      intro k
      induction k with
      | zero => intro _ j hj; omega
      | succ k ih =>
        intro hk j hj
        by_cases e : j = k
        · subst e
          cases h : listed.getD j false with
          | true => rfl
          | false =>
            have := in_ready hsz st.size (by omega) h (m j (by omega) listed (ih (by omega)))
            rw [hr] at this
            cases this
        · exact ih (by omega) j (by omega)
    have hw : w' = Wf := by rw [st.world, all 7 (by omega) 6 (by omega)]; simp
    rw [hw]
    exact hQ a'
  · rw [hsz]
    exact St14.start hT h12 h13

end Go.Proofs.YbulkavwiDoor
