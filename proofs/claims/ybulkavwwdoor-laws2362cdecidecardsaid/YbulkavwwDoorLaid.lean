/-
  From the row's condition on 'routing.Unreachable' to the walk's fact; a start that meets it; the arguments opened.
-/
import Derived.Test.YbulkavwwDoorRows
import Derived.Test.YbulkavwwDoorLawD
import Derived.ProofKit
import Derived.LaidMore
import Derived.OpenShut
import Derived.Stop.Joined
import Derived.Lib.LaidTab
import Derived.Deep.Strs
import Derived.Deep.SlicePairs
namespace Go.Proofs.YbulkavwwDoor
open Go.ChangeShapes Go.WideShapes Go.ChangeAt Go.RowKit

theorem own : ownKnob Ybad.prog.godebug = none := by kernel_rfl
theorem laidOut : laidOutB Ybad.prog = true := by kernel_rfl
theorem gUnr : Ybad.prog.globalNamed (Rows.lawS2362CDecideRow.named.headD "") = some 0 := by kernel_rfl
theorem tUnr : (Ybad.prog.globals[0]?).map (·.type) = some 54 := by kernel_rfl

/-- The door's own heap meets the condition. -/
theorem door_met (os : Os) (args : Array Value) : laidMetH Ybad.prog Rows.lawS2362CDecideRow.laid ((World.doorLaid Ybad.prog 400 os).forCall (fun _ _ => 0) ⟨#[], args, []⟩).memory :=
  laidMetH_of_parts3 (fuel := 8) (laidMet_of_run' 8 (by kernel_rfl) (by kernel_rfl)) (by kernel_rfl) (by kernel_rfl)

theorem len_two : ∀ {l : List Value}, l.length = 2 → ∃ a b, l = [a, b]
  | [a, b], _ => ⟨a, b, rfl⟩
theorem len_three : ∀ {l : List Value}, l.length = 3 → ∃ a b c, l = [a, b, c]
  | [a, b, c], _ => ⟨a, b, c, rfl⟩

/-- What the condition gives the walk. -/
theorem unr_of_laid {W : World} (h : laidMetH Ybad.prog Rows.lawS2362CDecideRow.laid W) : Unr W := by
  rw [MakeChecks.laidMetH_plain _ _ _ (by kernel_rfl)] at h
  have h2 : laidMet Ybad.prog [(Rows.lawS2362CDecideRow.named.headD "", .agg [.lit (.int .i64 31), .lit (.int .i64 1023)])] W := h
  obtain ⟨ps, ⟨g', t', cs, fuel, p, q, hg', ht', hvar, hd, _, _⟩, _⟩ := h2
  obtain rfl := Option.some.inj (gUnr.symm.trans hg')
  obtain rfl := Option.some.inj (tUnr.symm.trans ht')
  obtain ⟨y0, y1, n, hx, hl, h0, h1⟩ := trod_struct2 Ybad.underlying54 hd
  obtain ⟨n0, e0, x0, -⟩ := DataW.trod_int Ybad.underlying3 h0
  obtain ⟨n1, e1, x1, -⟩ := DataW.trod_int Ybad.underlying3 h1
  subst x0 x1
  simp only [Prod.mk.injEq, DataW.agg.injEq, List.cons.injEq, DataW.lit.injEq, Lit.int.injEq, true_and, and_true] at hx
  obtain ⟨⟨rfl, rfl⟩, -⟩ := hx
  have hs : Ybad.prog.cellsOf 54 = 2 := by kernel_rfl
  have hc : Ybad.prog.cellsOf 3 = 1 := by kernel_rfl
  rw [hs] at hl
  rw [hc] at e0 e1
  have k0 := World.var?_cell gUnr hvar 0
  have k1 := World.var?_cell gUnr hvar 1
  obtain ⟨l⟩ := cs
  obtain ⟨a, b, rfl⟩ := len_two hl
  simp at e0 e1 k0 k1
  subst e0 e1
  exact ⟨k0, k1⟩

theorem spot_none {w : World} {a : Addr} {v : Value} (h : w.cell? a = some v) : a = ⟨a.block, a.off, none⟩ ∧ a.block < w.heap.size := by
  obtain ⟨b, o, s⟩ := a
  have hb : b < w.heap.size := by
    unfold World.cell? at h
    cases hh : w.heap[b]? with
    | none => simp [hh] at h
    | some x => exact (Array.getElem?_eq_some_iff.1 hh).1
  cases s with
  | none => exact ⟨rfl, hb⟩
  | some s =>
    exfalso
    unfold World.cell? at h
    cases hh : w.heap[b]? with
    | none => simp [hh] at h
    | some x => cases x <;> simp [hh] at h

theorem add_none (b o k : Nat) : (⟨b, o, none⟩ : Addr).add k = ⟨b, o + k, none⟩ := by
  unfold Addr.add
  split
  · rename_i h; rw [h]; rfl
  · rfl

theorem arg2_of {H : Type} {enc : TypeId × Value → H} {W : World} {a : Option Addr} {n c : Nat} {d : DataW H} {ps : List MemPlace} (h : DataW.Trod enc Ybad.prog W 0 (fun _ => true) true 23 (.slice a n c) d ps) : ∃ C D, Arg2 W a n C D := by
  obtain ⟨fuel, hf⟩ := h
  rcases Deep.open_slice_pairs Ybad.underlying23 Ybad.underlying58 (by kernel_rfl) rfl rfl (by kernel_rfl) (by kernel_rfl) hf with ⟨hcs, _⟩ | ⟨x, l, c', m, n', V0, V1, D0, D1, P0, P1, hcs, _, hl, hm, hmm, _, hi⟩
  · simp [Value.cells] at hcs
    obtain ⟨rfl, rfl, rfl⟩ := hcs
    exact ⟨fun _ => 0, fun _ => 0, fun k hk => by omega⟩
  · simp [Value.cells] at hcs
    obtain ⟨rfl, rfl, rfl⟩ := hcs
    have hnm : n ≤ m := by rw [hmm]; split <;> omega
    have each : ∀ k, k < n → ∃ q : Int × Int, V0 k = .int .i64 q.1 ∧ V1 k = .int .i64 q.2 := fun k hk => by
      obtain ⟨-, -, t0, t1⟩ := hi k (by omega)
      obtain ⟨n0, e0, -, -⟩ := DataW.trod_int Ybad.underlying3 t0
      obtain ⟨n1, e1, -, -⟩ := DataW.trod_int Ybad.underlying3 t1
      simp at e0 e1
      exact ⟨(n0, n1), e0, e1⟩
    obtain ⟨q, hq⟩ := Deep.choose_lt each
    refine ⟨fun k => (q k).1, fun k => (q k).2, fun k hk => ?_⟩
    obtain ⟨c0, c1, -, -⟩ := hi k (by omega)
    obtain ⟨z0, -, -, -⟩ := hi 0 (by omega)
    have z := spot_none (w := W) (a := x) (by simpa [Addr.add] using z0)
    rw [z.1, add_none] at c0 c1
    rw [(hq k hk).1] at c0
    rw [(hq k hk).2] at c1
    exact ⟨x.block, x.off, by rw [← z.1], z.2, c0, c1⟩

theorem arg3_of {H : Type} {enc : TypeId × Value → H} {W : World} {a : Option Addr} {n c : Nat} {d : DataW H} {ps : List MemPlace} (h : DataW.Trod enc Ybad.prog W 0 (fun _ => true) true 22 (.slice a n c) d ps) : ∃ A B S, Arg3 W a n A B S := by
  obtain ⟨fuel, hf⟩ := h
  have ce : Ybad.prog.cellsOf 52 = 3 := by kernel_rfl
  have c3 : Ybad.prog.cellsOf 3 = 1 := by kernel_rfl
  have c9 : Ybad.prog.cellsOf 9 = 1 := by kernel_rfl
  rcases Deep.open_slice Ybad.underlying22 hf with ⟨hcs, _⟩ | ⟨x, l, c', m, n', D, Pl, hcs, _, hl, hm, hmm, _, hi⟩
  · simp [Value.cells] at hcs
    obtain ⟨rfl, rfl, rfl⟩ := hcs
    exact ⟨fun _ => 0, fun _ => 0, fun _ => ⟨#[]⟩, fun k hk => by omega⟩
  · simp [Value.cells] at hcs
    obtain ⟨rfl, rfl, rfl⟩ := hcs
    have hnm : n ≤ m := by rw [hmm]; split <;> omega
    have each : ∀ k, k < n → ∃ q : Int × Int × ByteArray, W.cell? (x.add (k * 3)) = some (.int .i64 q.1) ∧ W.cell? (x.add (k * 3 + 1)) = some (.int .i64 q.2.1) ∧ W.cell? (x.add (k * 3 + 2)) = some (.string q.2.2) := fun k hk => by
      obtain ⟨cs', h1, h2⟩ := hi k (by omega)
      rw [ce] at h1
      obtain ⟨_, hlen, hcell⟩ := World.cells?_some h1
      obtain ⟨y0, y1, y2, n2, -, -, t0, t1, t2⟩ := Deep.trod_struct3 Ybad.underlying52 h2
      obtain ⟨u0, u1, u2, rfl⟩ := len_three hlen
      simp only [c3, c9] at t0 t1 t2
      obtain ⟨n0, e0, -, -⟩ := DataW.trod_int Ybad.underlying3 t0
      obtain ⟨n1, e1, -, -⟩ := DataW.trod_int Ybad.underlying3 t1
      obtain ⟨s, e2, -, -⟩ := DataW.trod_string Ybad.underlying9 t2
      simp at e0 e1 e2
      subst e0 e1 e2
      have g0 := hcell 0 (by omega)
      have g1 := hcell 1 (by omega)
      have g2 := hcell 2 (by omega)
      rw [Deep.add_add] at g0 g1 g2
      exact ⟨(n0, n1, s), by simpa using g0, by simpa using g1, by simpa using g2⟩
    obtain ⟨q, hq⟩ := Deep.choose_lt each
    refine ⟨fun k => (q k).1, fun k => (q k).2.1, fun k => (q k).2.2, fun k hk => ?_⟩
    obtain ⟨c0, c1, c2⟩ := hq k hk
    obtain ⟨z0, -, -⟩ := hq 0 (by omega)
    have z := spot_none (w := W) (a := x) (by simpa [Addr.add] using z0)
    rw [z.1, add_none] at c0 c1 c2
    exact ⟨x.block, x.off, by rw [← z.1], z.2, c0, c1, c2⟩

end Go.Proofs.YbulkavwwDoor
