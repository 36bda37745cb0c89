/-
  The tree under way: one child more.
-/
import Derived.Test.YbulkavwiDoorNodes
namespace Go.Proofs.YbulkavwiDoor
open Go.RowKit
set_option linter.unusedSimpArgs false
set_option linter.unusedVariables false

/-- The parent has k children. B: what the call has made since. -/
structure Bld (w wr : World) (B pb rb nb mb k : Nat) (kid sch : Nat → Nat) (chv : Value) : Prop where
  c0 : wr.cell? ⟨pb, 0, none⟩ = some (.pointer (some ⟨rb, 0, none⟩))
  c2 : wr.cell? ⟨pb, 2, none⟩ = some chv
  c3 : wr.cell? ⟨pb, 3, none⟩ = some (.map none)
  f2 : wr.frozen? ⟨pb, 2, none⟩ = false
  f3 : wr.frozen? ⟨pb, 3, none⟩ = false
  row : wr.ownsRow B 39 1 chv k ((List.range k).map fun j => encP (kid j))
  kids : ∀ j, j < k → wr.cell? ⟨kid j, 0, none⟩ = some (.pointer (some ⟨sch j, 0, none⟩))
  typ : ∀ j, j < k → ∃ ca, wr.heap[kid j]? = some (.cells ca 46 (0, 0))
  ge : ∀ j, j < k → B ≤ kid j
  n5 : wr.cell? ⟨nb, 5, none⟩ = some (.pointer (some ⟨rb, 0, none⟩))
  r5 : wr.cell? ⟨rb, 5, none⟩ = some (.pointer none)
  wn : Whole wr nb
  wm : Whole wr mb
  size : B ≤ wr.heap.size
  lp : pb < B
  below : Below w.heap.size w wr

theorem Bld.grown {w wr W : World} {B pb rb nb mb k : Nat} {kid sch : Nat → Nat} {chv : Value} (b : Bld w wr B pb rb nb mb k kid sch chv) (hb : Below wr.heap.size wr W) : Bld w W B pb rb nb mb k kid sch chv := by
  have lp := Nat.lt_of_lt_of_le b.lp b.size
  have hs : w.heap.size ≤ wr.heap.size := b.below.size
  refine ⟨(hb.cell (p := ⟨pb, 0, none⟩) lp).trans b.c0, (hb.cell (p := ⟨pb, 2, none⟩) lp).trans b.c2, (hb.cell (p := ⟨pb, 3, none⟩) lp).trans b.c3, (hb.frozen (p := ⟨pb, 2, none⟩) lp).trans b.f2, (hb.frozen (p := ⟨pb, 3, none⟩) lp).trans b.f3,
    b.row.kept (row := none) ⟨hb.os, hb.tape, hb.output, hb.size, fun i hi _ => hb.block i hi⟩ (by cases chv.ownBlock <;> simp), fun j hj => (hb.cell (p := ⟨kid j, 0, none⟩) (cell_lt (b.kids j hj))).trans (b.kids j hj),
    fun j hj => by obtain ⟨ca, hc⟩ := b.typ j hj; exact ⟨ca, (hb.block _ (Array.getElem?_eq_some_iff.1 hc).1).trans hc⟩, b.ge,
    (hb.cell (p := ⟨nb, 5, none⟩) (cell_lt b.n5)).trans b.n5, (hb.cell (p := ⟨rb, 5, none⟩) (cell_lt b.r5)).trans b.r5, b.wn.grown hb, b.wm.grown hb, Nat.le_trans b.size hb.size, b.lp, b.below.trans (hb.mono hs)⟩

theorem row_succ (kid : Nat → Nat) (x k : Nat) : (List.range (k + 1)).map (fun j => encP (if j = k then x else kid j)) = (List.range k).map (fun j => encP (kid j)) ++ [encP x] := by
  rw [List.range_succ, List.map_append, List.map_congr_left (g := fun j => encP (kid j)) (fun j hj => by have := List.mem_range.1 hj; rw [if_neg (by omega)])]
  simp

/-- One child more. -/
theorem Bld.push {w wr : World} {B pb rb nb mb k : Nat} {kid sch : Nat → Nat} {chv : Value} (b : Bld w wr B pb rb nb mb k kid sch chv) (x s : Nat) (hx : wr.cell? ⟨x, 0, none⟩ = some (.pointer (some ⟨s, 0, none⟩))) (hxt : ∃ ca, wr.heap[x]? = some (.cells ca 46 (0, 0))) (hxg : B ≤ x) (hk : k ≤ 4096) (hwp : w.heap.size ≤ pb) (hnp : nb ≠ pb) (hmp : mb ≠ pb) (hwB : w.heap.size ≤ B) (hnB : nb < B) (hrB : rb < B) (hmB : mb < B) :
    ∃ v' w', (Builtin.append_ #[40, 40] 40 #[chv, .slice (some ⟨wr.heap.size, 0, none⟩) 1 1]).run Ybad.prog (wr.alloc (.cells #[encP x] 39)) = .ok v' w' ∧ w'.cell? ⟨pb, 2, none⟩ = some chv ∧ w'.frozen? ⟨pb, 2, none⟩ = false ∧ (∃ g c, v' = .slice (some ⟨g, 0, none⟩) (k + 1) c) ∧
      wr.heap.size ≤ w'.heap.size ∧ Bld w (w'.setCell ⟨pb, 2, none⟩ v') B pb rb nb mb (k + 1) (fun j => if j = k then x else kid j) (fun j => if j = k then s else sch j) v' ∧ (∀ q, q < B → q ≠ pb → (w'.setCell ⟨pb, 2, none⟩ v').heap[q]? = wr.heap[q]?) ∧
      (∀ q ca, q ≠ pb → wr.heap[q]? = some (.cells ca 46 (0, 0)) → (w'.setCell ⟨pb, 2, none⟩ v').heap[q]? = wr.heap[q]?) := by
  obtain ⟨i0, hi, hz0, hz1, hz2⟩ := info_parts Ybad.info39
  have hlen : ((List.range k).map fun j => encP (kid j)).length = k := by simp
  obtain ⟨v', w', hrun, ho', hg', hnil, hblk⟩ := run_append_own_at (P := Ybad.prog) (wr.alloc (.cells #[encP x] 39)) B 40 40 39 i0 (.pointer none) 1 8 Ybad.underlying40 hi hz0 hz1 hz2 rfl (by decide) _ _ _ (b.row.alloc _)
    ⟨wr.heap.size, 0, none⟩ 1 1 [encP x] rfl (cell_one_new _ _ _) (by simp [encP, Value.oneCell']) (by unfold maxLen; omega) (by omega) (by rw [World.size_alloc]; have := b.size; omega)
  have hrow : ∀ r, chv.ownBlock = some r → B ≤ r := by
    intro r hr
    rcases b.row.2 with ⟨e, _⟩ | ⟨g, cap, cur, e, hb, _⟩
    · rw [e] at hr; cases hr
    · rw [e] at hr; cases hr; exact hb
  have b1 := b.grown ((Below.refl _ _).alloc (Nat.le_refl _) (.cells #[encP x] 39))
  have lpb : pb < wr.heap.size := Nat.lt_of_lt_of_le b.lp b.size
  have keep : ∀ bb j u, bb < B ∨ chv.ownBlock ≠ some bb → (wr.alloc (.cells #[encP x] 39)).cell? ⟨bb, j, none⟩ = some u → w'.cell? ⟨bb, j, none⟩ = some u := fun bb j u hbb hc => hg'.cell hc (fun e => by
    rcases hbb with h | h
    · have := hrow bb e.symm; omega
    · exact h e.symm)
  have hsz : (wr.alloc (.cells #[encP x] 39)).heap.size = wr.heap.size + 1 := World.size_alloc _ _
  have hal : ∀ q, q < wr.heap.size → (wr.alloc (.cells #[encP x] 39)).heap[q]? = wr.heap[q]? := fun q hq => Below.heap_alloc wr _ q hq
  -- a block of type 46 is not the row's
  have far : ∀ q ca, wr.heap[q]? = some (.cells ca 46 (0, 0)) → chv.ownBlock ≠ some q := by
    intro q ca hq e
    rcases b.row.2 with ⟨e', _⟩ | ⟨g, cap, cur, e', _, hgb, _⟩
    · rw [e'] at e; cases e
    · rw [e'] at e
      cases e
      rw [hq] at hgb
      cases hgb
  have same : ∀ q, q < wr.heap.size → (q < B ∨ chv.ownBlock ≠ some q) → w'.heap[q]? = wr.heap[q]? := fun q hq hb' => (hg'.block q (by omega) (fun e => by
    rcases hb' with h | h
    · have := hrow q e.symm; omega
    · exact h e.symm)).trans (hal q hq)
  have cellq : ∀ q j, q < wr.heap.size → (q < B ∨ chv.ownBlock ≠ some q) → w'.cell? ⟨q, j, none⟩ = wr.cell? ⟨q, j, none⟩ := fun q j hq hb' => by unfold World.cell?; rw [same q hq hb']
  have frq : ∀ q j, q < wr.heap.size → (q < B ∨ chv.ownBlock ≠ some q) → w'.frozen? ⟨q, j, none⟩ = wr.frozen? ⟨q, j, none⟩ := fun q j hq hb' => by unfold World.frozen?; rw [same q hq hb']
  have hw'sz : wr.heap.size ≤ w'.heap.size := by have := hg'.size; omega
  obtain ⟨g', cap', rfl⟩ := ownsRow_succ ho'
  have hg'B : B ≤ g' := by
    rcases hblk with e | e
    · exact hrow g' e.symm
    · have : g' = (wr.alloc (.cells #[encP x] 39)).heap.size := Option.some.inj e
      have := b.size
      omega
  have p2 := (cellq pb 2 lpb (.inl b.lp)).trans b.c2
  have setO : ∀ q j, q ≠ pb ∨ j ≠ 2 → (w'.setCell ⟨pb, 2, none⟩ (.slice (some ⟨g', 0, none⟩) (k + 1) cap')).cell? ⟨q, j, none⟩ = w'.cell? ⟨q, j, none⟩ := fun q j h => World.cell?_setCell_other _ _ _ _ (fun hh => by
    have := Addr.mk.inj hh
    rcases h with h | h
    · exact h this.1.symm
    · exact h this.2.1.symm)
  have gbs := gb_set w' pb 2 (.slice (some ⟨g', 0, none⟩) (k + 1) cap')
  obtain ⟨cx, hcx⟩ := hxt
  have lx := cell_lt hx
  have hxp : x ≠ pb := by have := b.lp; omega
  have ln := cell_lt b.n5
  have lr := cell_lt b.r5
  have heap2 : ∀ q, q ≠ pb → q < wr.heap.size → (q < B ∨ chv.ownBlock ≠ some q) → (w'.setCell ⟨pb, 2, none⟩ (.slice (some ⟨g', 0, none⟩) (k + 1) cap')).heap[q]? = wr.heap[q]? := fun q hq hl hb' => (gbs.block q (by omega) (fun e => hq (Option.some.inj e))).trans (same q hl hb')
  refine ⟨_, w', hrun, p2, (frq pb 2 lpb (.inl b.lp)).trans b.f2, ⟨g', cap', rfl⟩, hw'sz, ?_, (fun q hq hne => heap2 q hne (Nat.lt_of_lt_of_le hq b.size) (.inl hq)), fun q cq hne hq => heap2 q hne (Array.getElem?_eq_some_iff.1 hq).1 (.inr (far q cq hq))⟩
  refine ⟨(setO pb 0 (.inr (by decide))).trans ((cellq pb 0 lpb (.inl b.lp)).trans b.c0), World.cell?_setCell_same _ _ _ p2, (setO pb 3 (.inr (by decide))).trans ((cellq pb 3 lpb (.inl b.lp)).trans b.c3),
    by rw [World.frozen?_setCell]; exact (frq pb 2 lpb (.inl b.lp)).trans b.f2, by rw [World.frozen?_setCell]; exact (frq pb 3 lpb (.inl b.lp)).trans b.f3, ?row, ?kids, ?typ, ?ge,
    (setO nb 5 (.inr (by decide))).trans ((cellq nb 5 ln (.inl hnB)).trans b.n5), (setO rb 5 (.inr (by decide))).trans ((cellq rb 5 lr (.inl hrB)).trans b.r5), ?wn, ?wm, ?size, b.lp, ?below⟩
  case row =>
    rw [row_succ kid x k]
    exact ho'.kept gbs (.inr (fun e => by have h : g' = pb := Option.some.inj e; have := b.lp; omega))
  case kids =>
    intro j hj
    by_cases e : j = k
    · simp only [e, if_true]
      exact (setO x 0 (.inl hxp)).trans ((cellq x 0 lx (.inr (far x cx hcx))).trans hx)
    · simp only [e, if_false]
      have hjk : j < k := by omega
      obtain ⟨cj, hcj⟩ := b.typ j hjk
      have := b.ge j hjk
      have := b.lp
      exact (setO (kid j) 0 (.inl (by omega))).trans ((cellq (kid j) 0 (cell_lt (b.kids j hjk)) (.inr (far _ cj hcj))).trans (b.kids j hjk))
  case typ =>
    intro j hj
    by_cases e : j = k
    · simp only [e, if_true]
      exact ⟨cx, (heap2 x hxp lx (.inr (far x cx hcx))).trans hcx⟩
    · simp only [e, if_false]
      have hjk : j < k := by omega
      obtain ⟨cj, hcj⟩ := b.typ j hjk
      have := b.ge j hjk
      have := b.lp
      exact ⟨cj, (heap2 (kid j) (by omega) (cell_lt (b.kids j hjk)) (.inr (far _ cj hcj))).trans hcj⟩
  case ge =>
    intro j hj
    by_cases e : j = k
    · simp only [e, if_true]; exact hxg
    · simp only [e, if_false]; exact b.ge j (by omega)
  case wn =>
    obtain ⟨c1, t1, h1⟩ := b.wn
    exact ⟨c1, t1, (heap2 nb hnp ln (.inl hnB)).trans h1⟩
  case wm =>
    obtain ⟨c1, t1, h1⟩ := b.wm
    exact ⟨c1, t1, (heap2 mb hmp (Array.getElem?_eq_some_iff.1 h1).1 (.inl hmB)).trans h1⟩
  case size =>
    have := gbs.size
    have := b.size
    omega
  case below =>
    refine Below.setCell (p := ⟨pb, 2, none⟩) ?_ hwp _
    exact ⟨hg'.os.trans b.below.os, hg'.tape.trans b.below.tape, hg'.output.trans b.below.output, Nat.le_trans b.below.size hw'sz, fun q hq => (same q (Nat.lt_of_lt_of_le hq b.below.size) (.inl (by omega))).trans (b.below.block q hq)⟩

end Go.Proofs.YbulkavwiDoor
