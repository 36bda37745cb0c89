/-
  'entries[entry.value] = append(entries[entry.value], entry)' in a round, in whatever order.
-/
import Derived.Test.YbulkavwiDoorTab
namespace Go.Proofs.YbulkavwiDoor
open Go.RowKit
set_option linter.unusedSimpArgs false
set_option linter.unusedVariables false

theorem x_nilCheck {a : Act} {w : World} {o : Oper} {t x : Nat} (ho : o.op = .nilCheck (.tmp t)) (h : a.eval (.tmp t) = .pointer (some ⟨x, 0, none⟩)) :
    (execOp a.eval o).run Ybad.prog w = .ok (.value (.pointer (some ⟨x, 0, none⟩))) w := by
  simp only [execOp, ho]
  rw [h]
  simp [go_sem]

theorem x_field4 {a : Act} {w : World} {o : Oper} {t x : Nat} (ho : o.op = .fieldAddr 46 (.tmp t) 4) (h : a.eval (.tmp t) = .pointer (some ⟨x, 0, none⟩)) :
    (execOp a.eval o).run Ybad.prog w = .ok (.value (.pointer (some ⟨x, 4, none⟩))) w := by
  simp only [execOp, ho]
  rw [h]
  simp [go_sem]

theorem x_load9 {a : Act} {w : World} {o : Oper} {t x : Nat} {s : ByteArray} (ho : o.op = .load 9 (.tmp t)) (h : a.eval (.tmp t) = .pointer (some ⟨x, 4, none⟩)) (hc : w.cell? ⟨x, 4, none⟩ = some (.string s)) :
    (execOp a.eval o).run Ybad.prog w = .ok (.value (.string s)) w := by
  simp only [execOp, ho]
  rw [h]
  simp [go_sem, hc]

def sl16 (k : Nat) : Option Nat := if k < 14 then some (77 + k) else none
def dep16 : Nat → List Nat
  | 2 => [1] | 3 => [2] | 4 => [3] | 7 => [6] | 8 => [7] | 9 => [8] | 10 => [5, 9] | 12 => [11] | 13 => [10, 12] | 14 => [0, 4, 13] | _ => []
def vals16 (bm x N : Nat) (s : ByteArray) (v v' : Value) : Nat → Value
  | 0 => .map (some bm) | 5 => .map (some bm)
  | 1 => .pointer (some ⟨x, 0, none⟩) | 2 => .pointer (some ⟨x, 0, none⟩) | 6 => .pointer (some ⟨x, 0, none⟩) | 7 => .pointer (some ⟨x, 0, none⟩) | 11 => .pointer (some ⟨x, 0, none⟩)
  | 3 => .pointer (some ⟨x, 4, none⟩) | 8 => .pointer (some ⟨x, 4, none⟩)
  | 4 => .string s | 9 => .string s
  | 10 => v | 12 => .slice (some ⟨N, 0, none⟩) 1 1 | 13 => v' | _ => undef
def stage16 (W W1 W' Wf : World) (f : Nat → Bool) : World := if f 14 = true then Wf else if f 13 = true then W' else if f 12 = true then W1 else W.drew

theorem stage_also {W W1 W' Wf : World} {f : Nat → Bool} {k : Nat} (h : k ≠ 12) (h' : k ≠ 13) (h'' : k ≠ 14) : stage16 W W1 W' Wf (also f k) = stage16 W W1 W' Wf f := by
  unfold stage16 also
  simp only [h, h', h'', if_false]

theorem off {f : Nat → Bool} {k i : Nat} (hf : f k = false) (hc : f i = true → f k = true) : f i = false := by
  cases h : f i with
  | false => rfl
  | true => rw [hc h] at hf; cases hf

section
variable {ops : Array Oper} {bm c12 x : Nat} {s : ByteArray} {v v' : Value} {W W' Wf : World}

/-- What is asked, of the operations alone. -/
structure Ops16 (ops : Array Oper) : Prop where
  i0 : Is ops 0 (some 77) (.load 49 (.tmp 12)) 49
  i1 : Is ops 1 (some 78) (.move (.tmp 13)) 39
  i2 : Is ops 2 (some 79) (.nilCheck (.tmp 78)) 0
  i3 : Is ops 3 (some 80) (.fieldAddr 46 (.tmp 79) 4) 0
  i4 : Is ops 4 (some 81) (.load 9 (.tmp 80)) 9
  i5 : Is ops 5 (some 82) (.load 49 (.tmp 12)) 49
  i6 : Is ops 6 (some 83) (.move (.tmp 13)) 39
  i7 : Is ops 7 (some 84) (.nilCheck (.tmp 83)) 0
  i8 : Is ops 8 (some 85) (.fieldAddr 46 (.tmp 84) 4) 0
  i9 : Is ops 9 (some 86) (.load 9 (.tmp 85)) 9
  i10 : Is ops 10 (some 87) (.lookup 49 (.tmp 82) (.tmp 86) false) 40
  i11 : Is ops 11 (some 88) (.move (.tmp 13)) 39
  i12 : Is ops 12 (some 89) (.buildSlice 40 1 #[(0, .tmp 88)]) 40
  i13 : Is ops 13 (some 90) (.call { callee := .builtin .append, args := #[.tmp 87, .tmp 89], argTypes := #[40, 40] }) 40
  i14 : Is ops 14 none (.mapUpdate 49 (.tmp 77) (.tmp 81) (.tmp 90)) 0

theorem does16 (h : Ops16 ops)
    (c0 : W.cell? ⟨c12, 0, none⟩ = some (.map (some bm))) (c1 : (W.alloc (.cells #[.pointer (some ⟨x, 0, none⟩)] 39)).drew.cell? ⟨c12, 0, none⟩ = some (.map (some bm))) (c2 : W'.cell? ⟨c12, 0, none⟩ = some (.map (some bm)))
    (x0 : W.cell? ⟨x, 4, none⟩ = some (.string s)) (x1 : (W.alloc (.cells #[.pointer (some ⟨x, 0, none⟩)] 39)).drew.cell? ⟨x, 4, none⟩ = some (.string s)) (x2 : W'.cell? ⟨x, 4, none⟩ = some (.string s))
    (qL : (Instr.lookup 49 (.map (some bm)) (.string s) false).run Ybad.prog W.drew = .ok v W.drew) (qL2 : (Instr.lookup 49 (.map (some bm)) (.string s) false).run Ybad.prog (W.alloc (.cells #[.pointer (some ⟨x, 0, none⟩)] 39)).drew = .ok v (W.alloc (.cells #[.pointer (some ⟨x, 0, none⟩)] 39)).drew)
    (qA : (Builtin.append_ #[40, 40] 40 #[v, .slice (some ⟨W.heap.size, 0, none⟩) 1 1]).run Ybad.prog (W.alloc (.cells #[.pointer (some ⟨x, 0, none⟩)] 39)).drew = .ok v' W')
    (qU : (Instr.mapUpdate 49 (.map (some bm)) (.string s) v').run Ybad.prog W' = .ok () Wf) (k : Nat) (hk : k < 15) :
    Does ops [(12, .pointer (some ⟨c12, 0, none⟩)), (13, .pointer (some ⟨x, 0, none⟩))] sl16 (vals16 bm x W.heap.size s v v') dep16 (stage16 W (W.alloc (.cells #[.pointer (some ⟨x, 0, none⟩)] 39)).drew W' Wf) k := by
  have far : ∀ {o : Oper} {w : World} {ρ : Operand → Value}, (∀ c, o.op ≠ .call c) → (∀ c, o.op ≠ .defer c) → (∀ c, o.op ≠ .go c) → o.about Ybad.prog w ρ = none := fun h1 h2 h3 => about_none h1 h2 h3
  -- the cells in the first three stages
  have cell3 : ∀ (f : Nat → Bool) (b j : Nat) (u : Value), f 14 = false → W.cell? ⟨b, j, none⟩ = some u → (W.alloc (.cells #[.pointer (some ⟨x, 0, none⟩)] 39)).drew.cell? ⟨b, j, none⟩ = some u → W'.cell? ⟨b, j, none⟩ = some u →
      (stage16 W (W.alloc (.cells #[.pointer (some ⟨x, 0, none⟩)] 39)).drew W' Wf f).cell? ⟨b, j, none⟩ = some u := by
    intro f b j u h14 h1 h2 h3
    unfold stage16
    rw [h14]
    simp only [Bool.false_eq_true, if_false]
    split
    · exact h3
    · split
      · exact h2
      · exact h1
  have hcase : k = 0 ∨ k = 1 ∨ k = 2 ∨ k = 3 ∨ k = 4 ∨ k = 5 ∨ k = 6 ∨ k = 7 ∨ k = 8 ∨ k = 9 ∨ k = 10 ∨ k = 11 ∨ k = 12 ∨ k = 13 ∨ k = 14 := by omega
  rcases hcase with rfl | rfl | rfl | rfl | rfl | rfl | rfl | rfl | rfl | rfl | rfl | rfl | rfl | rfl | rfl
  · obtain ⟨o, ho, hdst, hop, hg, -⟩ := h.i0
    refine ⟨o, ho, hdst, hg, by rw [hop]; simp, fun f a hin hout hf hd hc => ⟨far (by rw [hop]; simp) (by rw [hop]; simp) (by rw [hop]; simp), .inl ⟨⟨77, rfl⟩, ?_⟩⟩⟩
    rw [stage_also (by decide) (by decide) (by decide)]
    exact x_load49 hop (hin 12 (.pointer (some ⟨c12, 0, none⟩)) (by simp)) (cell3 f _ _ _ (off hf (fun h => hc 14 0 h (by simp [dep16]))) c0 c1 c2)
  · obtain ⟨o, ho, hdst, hop, hg, -⟩ := h.i1
    refine ⟨o, ho, hdst, hg, by rw [hop]; simp, fun f a hin hout hf hd hc => ⟨far (by rw [hop]; simp) (by rw [hop]; simp) (by rw [hop]; simp), .inl ⟨⟨78, rfl⟩, ?_⟩⟩⟩
    rw [stage_also (by decide) (by decide) (by decide)]
    exact x_move hop (hin 13 (.pointer (some ⟨x, 0, none⟩)) (by simp))
  · obtain ⟨o, ho, hdst, hop, hg, -⟩ := h.i2
    refine ⟨o, ho, hdst, hg, by rw [hop]; simp, fun f a hin hout hf hd hc => ⟨far (by rw [hop]; simp) (by rw [hop]; simp) (by rw [hop]; simp), .inl ⟨⟨79, rfl⟩, ?_⟩⟩⟩
    rw [stage_also (by decide) (by decide) (by decide)]
    exact x_nilCheck hop (hout 1 78 (by simp [dep16]) rfl)
  · obtain ⟨o, ho, hdst, hop, hg, -⟩ := h.i3
    refine ⟨o, ho, hdst, hg, by rw [hop]; simp, fun f a hin hout hf hd hc => ⟨far (by rw [hop]; simp) (by rw [hop]; simp) (by rw [hop]; simp), .inl ⟨⟨80, rfl⟩, ?_⟩⟩⟩
    rw [stage_also (by decide) (by decide) (by decide)]
    exact x_field4 hop (hout 2 79 (by simp [dep16]) rfl)
  · obtain ⟨o, ho, hdst, hop, hg, -⟩ := h.i4
    refine ⟨o, ho, hdst, hg, by rw [hop]; simp, fun f a hin hout hf hd hc => ⟨far (by rw [hop]; simp) (by rw [hop]; simp) (by rw [hop]; simp), .inl ⟨⟨81, rfl⟩, ?_⟩⟩⟩
    rw [stage_also (by decide) (by decide) (by decide)]
    exact x_load9 hop (hout 3 80 (by simp [dep16]) rfl) (cell3 f _ _ _ (off hf (fun h => hc 14 4 h (by simp [dep16]))) x0 x1 x2)
  · obtain ⟨o, ho, hdst, hop, hg, -⟩ := h.i5
    refine ⟨o, ho, hdst, hg, by rw [hop]; simp, fun f a hin hout hf hd hc => ⟨far (by rw [hop]; simp) (by rw [hop]; simp) (by rw [hop]; simp), .inl ⟨⟨82, rfl⟩, ?_⟩⟩⟩
    rw [stage_also (by decide) (by decide) (by decide)]
    exact x_load49 hop (hin 12 (.pointer (some ⟨c12, 0, none⟩)) (by simp)) (cell3 f _ _ _ (off hf (fun h => hc 10 5 (hc 13 10 (hc 14 13 h (by simp [dep16])) (by simp [dep16])) (by simp [dep16]))) c0 c1 c2)
  · obtain ⟨o, ho, hdst, hop, hg, -⟩ := h.i6
    refine ⟨o, ho, hdst, hg, by rw [hop]; simp, fun f a hin hout hf hd hc => ⟨far (by rw [hop]; simp) (by rw [hop]; simp) (by rw [hop]; simp), .inl ⟨⟨83, rfl⟩, ?_⟩⟩⟩
    rw [stage_also (by decide) (by decide) (by decide)]
    exact x_move hop (hin 13 (.pointer (some ⟨x, 0, none⟩)) (by simp))
  · obtain ⟨o, ho, hdst, hop, hg, -⟩ := h.i7
    refine ⟨o, ho, hdst, hg, by rw [hop]; simp, fun f a hin hout hf hd hc => ⟨far (by rw [hop]; simp) (by rw [hop]; simp) (by rw [hop]; simp), .inl ⟨⟨84, rfl⟩, ?_⟩⟩⟩
    rw [stage_also (by decide) (by decide) (by decide)]
    exact x_nilCheck hop (hout 6 83 (by simp [dep16]) rfl)
  · obtain ⟨o, ho, hdst, hop, hg, -⟩ := h.i8
    refine ⟨o, ho, hdst, hg, by rw [hop]; simp, fun f a hin hout hf hd hc => ⟨far (by rw [hop]; simp) (by rw [hop]; simp) (by rw [hop]; simp), .inl ⟨⟨85, rfl⟩, ?_⟩⟩⟩
    rw [stage_also (by decide) (by decide) (by decide)]
    exact x_field4 hop (hout 7 84 (by simp [dep16]) rfl)
  · obtain ⟨o, ho, hdst, hop, hg, -⟩ := h.i9
    refine ⟨o, ho, hdst, hg, by rw [hop]; simp, fun f a hin hout hf hd hc => ⟨far (by rw [hop]; simp) (by rw [hop]; simp) (by rw [hop]; simp), .inl ⟨⟨86, rfl⟩, ?_⟩⟩⟩
    rw [stage_also (by decide) (by decide) (by decide)]
    exact x_load9 hop (hout 8 85 (by simp [dep16]) rfl) (cell3 f _ _ _ (off hf (fun h => hc 10 9 (hc 13 10 (hc 14 13 h (by simp [dep16])) (by simp [dep16])) (by simp [dep16]))) x0 x1 x2)
  · obtain ⟨o, ho, hdst, hop, hg, -⟩ := h.i10
    refine ⟨o, ho, hdst, hg, by rw [hop]; simp, fun f a hin hout hf hd hc => ⟨far (by rw [hop]; simp) (by rw [hop]; simp) (by rw [hop]; simp), .inl ⟨⟨87, rfl⟩, ?_⟩⟩⟩
    rw [stage_also (by decide) (by decide) (by decide)]
    refine x_lookup49 hop (hout 5 82 (by simp [dep16]) rfl) (hout 9 86 (by simp [dep16]) rfl) ?_
    have f13 : f 13 = false := off hf (fun h => hc 13 10 h (by simp [dep16]))
    have f14 : f 14 = false := off f13 (fun h => hc 14 13 h (by simp [dep16]))
    unfold stage16
    rw [f13, f14]
    simp only [Bool.false_eq_true, if_false]
    split
    · exact qL2
    · exact qL
  · obtain ⟨o, ho, hdst, hop, hg, -⟩ := h.i11
    refine ⟨o, ho, hdst, hg, by rw [hop]; simp, fun f a hin hout hf hd hc => ⟨far (by rw [hop]; simp) (by rw [hop]; simp) (by rw [hop]; simp), .inl ⟨⟨88, rfl⟩, ?_⟩⟩⟩
    rw [stage_also (by decide) (by decide) (by decide)]
    exact x_move hop (hin 13 (.pointer (some ⟨x, 0, none⟩)) (by simp))
  · obtain ⟨o, ho, hdst, hop, hg, -⟩ := h.i12
    refine ⟨o, ho, hdst, hg, by rw [hop]; simp, fun f a hin hout hf hd hc => ⟨far (by rw [hop]; simp) (by rw [hop]; simp) (by rw [hop]; simp), .inl ⟨⟨89, rfl⟩, ?_⟩⟩⟩
    have f13 : f 13 = false := off hf (fun h => hc 13 12 h (by simp [dep16]))
    have f14 : f 14 = false := off f13 (fun h => hc 14 13 h (by simp [dep16]))
    have e1 : stage16 W (W.alloc (.cells #[.pointer (some ⟨x, 0, none⟩)] 39)).drew W' Wf f = W.drew := by unfold stage16; rw [f13, f14, hf]; simp
    have e2 : stage16 W (W.alloc (.cells #[.pointer (some ⟨x, 0, none⟩)] 39)).drew W' Wf (also f 12) = (W.alloc (.cells #[.pointer (some ⟨x, 0, none⟩)] 39)).drew := by unfold stage16 also; simp [f13, f14]
    rw [e1, e2]
    exact x_build hop (hout 11 88 (by simp [dep16]) rfl)
  · obtain ⟨o, ho, hdst, hop, hg, hty⟩ := h.i13
    refine ⟨o, ho, hdst, hg, by rw [hop]; simp, fun f a hin hout hf hd hc => ⟨by simp [Oper.about, hop, resolve, Target.leads, Sem.run_pure], .inl ⟨⟨90, rfl⟩, ?_⟩⟩⟩
    have f14 : f 14 = false := off hf (fun h => hc 14 13 h (by simp [dep16]))
    have f12 : f 12 = true := hd 12 (by simp [dep16])
    have e1 : stage16 W (W.alloc (.cells #[.pointer (some ⟨x, 0, none⟩)] 39)).drew W' Wf f = (W.alloc (.cells #[.pointer (some ⟨x, 0, none⟩)] 39)).drew := by unfold stage16; rw [f12, f14, hf]; simp
    have e2 : stage16 W (W.alloc (.cells #[.pointer (some ⟨x, 0, none⟩)] 39)).drew W' Wf (also f 13) = W' := by unfold stage16 also; simp [f14]
    rw [e1, e2]
    exact x_append hop hty (hout 10 87 (by simp [dep16]) rfl) (hout 12 89 (by simp [dep16]) rfl) qA
  · obtain ⟨o, ho, hdst, hop, hg, -⟩ := h.i14
    refine ⟨o, ho, hdst, hg, by rw [hop]; simp, fun f a hin hout hf hd hc => ⟨far (by rw [hop]; simp) (by rw [hop]; simp) (by rw [hop]; simp), .inr ⟨rfl, ?_⟩⟩⟩
    have f13 : f 13 = true := hd 13 (by simp [dep16])
    have e1 : stage16 W (W.alloc (.cells #[.pointer (some ⟨x, 0, none⟩)] 39)).drew W' Wf f = W' := by unfold stage16; rw [f13, hf]; simp
    have e2 : stage16 W (W.alloc (.cells #[.pointer (some ⟨x, 0, none⟩)] 39)).drew W' Wf (also f 14) = Wf := by unfold stage16 also; simp
    rw [e1, e2]
    exact x_update hop (hout 0 77 (by simp [dep16]) rfl) (hout 4 81 (by simp [dep16]) rfl) (hout 13 90 (by simp [dep16]) rfl) qU

theorem region16 {F : Fence} {m id : Nat} {Q : Exit → Act → World → Prop} {a : Act} (hsz : ops.size = 15) (h : Ops16 ops) (hafter : ∀ k, k < 15 → ∀ j, j ∈ dep16 k → After ops k j)
    (hmay : ∀ k, k < 15 → ∀ listed : Array Bool, (∀ j, j < k → listed.getD j false = true) → may ops k listed = true)
    (c0 : W.cell? ⟨c12, 0, none⟩ = some (.map (some bm))) (c1 : (W.alloc (.cells #[.pointer (some ⟨x, 0, none⟩)] 39)).drew.cell? ⟨c12, 0, none⟩ = some (.map (some bm))) (c2 : W'.cell? ⟨c12, 0, none⟩ = some (.map (some bm)))
    (x0 : W.cell? ⟨x, 4, none⟩ = some (.string s)) (x1 : (W.alloc (.cells #[.pointer (some ⟨x, 0, none⟩)] 39)).drew.cell? ⟨x, 4, none⟩ = some (.string s)) (x2 : W'.cell? ⟨x, 4, none⟩ = some (.string s))
    (qL : (Instr.lookup 49 (.map (some bm)) (.string s) false).run Ybad.prog W.drew = .ok v W.drew) (qL2 : (Instr.lookup 49 (.map (some bm)) (.string s) false).run Ybad.prog (W.alloc (.cells #[.pointer (some ⟨x, 0, none⟩)] 39)).drew = .ok v (W.alloc (.cells #[.pointer (some ⟨x, 0, none⟩)] 39)).drew)
    (qA : (Builtin.append_ #[40, 40] 40 #[v, .slice (some ⟨W.heap.size, 0, none⟩) 1 1]).run Ybad.prog (W.alloc (.cells #[.pointer (some ⟨x, 0, none⟩)] 39)).drew = .ok v' W')
    (qU : (Instr.mapUpdate 49 (.map (some bm)) (.string s) v').run Ybad.prog W' = .ok () Wf)
    (hT : a.tmps.size = 98) (h12 : a.eval (.tmp 12) = .pointer (some ⟨c12, 0, none⟩)) (h13 : a.eval (.tmp 13) = .pointer (some ⟨x, 0, none⟩)) (hQ : ∀ a', Q .normal a' Wf) :
    (Code.region id ops true).wpIn F m Ybad.prog Q a W := by
  refine region_tab hsz (does16 h c0 c1 c2 x0 x1 x2 qL qL2 qA qU) hafter ?inj ?ins ?T hmay ?start hT ?hi ?hQ
  case inj =>
    intro k k' t h1 h2 h3 h4
    unfold sl16 at h3 h4
    split at h3
    · split at h4
      · have := Option.some.inj h3
        have := Option.some.inj h4
        omega
      · cases h4
    · cases h3
  case ins =>
    intro k t v h1 h2 h3
    unfold sl16 at h2
    split at h2
    · have := Option.some.inj h2
      simp at h3
      omega
    · cases h2
  case T =>
    intro k t h1 h2
    unfold sl16 at h2
    split at h2
    · have := Option.some.inj h2
      omega
    · cases h2
  case start => unfold stage16; simp
  case hi =>
    intro t v hm
    simp at hm
    rcases hm with ⟨rfl, rfl⟩ | ⟨rfl, rfl⟩
    · exact h12
    · exact h13
  case hQ =>
    intro f a' hf
    have e : stage16 W (W.alloc (.cells #[.pointer (some ⟨x, 0, none⟩)] 39)).drew W' Wf f = Wf := by unfold stage16; rw [hf 14 (by decide)]; simp
    rw [e]
    exact hQ a'

end
end Go.Proofs.YbulkavwiDoor
