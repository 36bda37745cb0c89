/-
  A start that meets the rows' condition on the listed variables; the argument opened.
-/
import Derived.Test.YbulkavwiDoorRows
import Derived.Test.YbulkavwiDoorLawA
import Derived.ProofKit
import Derived.LaidMore
import Derived.OpenShut
import Derived.Stop.Joined
import Derived.Lib.LaidTab
import Derived.Deep.Strs
namespace Go.Proofs.YbulkavwiDoor
open Go.ChangeShapes Go.WideShapes Go.ChangeAt Go.RowKit
set_option linter.unusedSimpArgs false
set_option linter.unusedVariables false

theorem own : ownKnob Ybad.prog.godebug = none := by kernel_rfl
theorem laidOut : laidOutB Ybad.prog = true := by kernel_rfl

/-- The door's own heap meets the condition. -/
theorem door_met (os : Os) (args : Array Value) : laidMetH Ybad.prog Rows.lawS2361AAllRow.laid ((World.doorLaid Ybad.prog 400 os).forCall (fun _ _ => 0) ⟨#[], args, []⟩).memory :=
  laidMetH_of_parts3 (fuel := 8) (laidMet_of_run' 8 (by kernel_rfl) (by kernel_rfl)) (by kernel_rfl) (by kernel_rfl)

theorem spot_none {w : World} {a : Addr} {v : Value} (h : w.cell? a = some v) : a = ⟨a.block, a.off, none⟩ := by
  obtain ⟨b, o, s⟩ := a
  cases s with
  | none => rfl
  | some s =>
    exfalso
    unfold World.cell? at h
    cases hh : w.heap[b]? with
    | none => simp [hh] at h
    | some x => cases x <;> simp [hh] at h

theorem add_none (b o k : Nat) : (⟨b, o, none⟩ : Addr).add k = ⟨b, o + k, none⟩ := by
  unfold Addr.add
  split
  · rename_i h; rw [h]; rfl
  · rfl

theorem len_one : ∀ {l : List Value}, l.length = 1 → ∃ a, l = [a]
  | [a], _ => ⟨a, rfl⟩

theorem strs_of {H : Type} {enc : TypeId × Value → H} {W : World} {a : Option Addr} {n c : Nat} {d : DataW H} {ps : List MemPlace} (h : DataW.Trod enc Ybad.prog W 0 (fun _ => true) true 22 (.slice a n c) d ps) : ∃ S, Strs W a n S := by
  obtain ⟨fuel, hf⟩ := h
  have c9 : Ybad.prog.cellsOf 9 = 1 := by kernel_rfl
  rcases Deep.open_slice Ybad.underlying22 hf with ⟨hcs, _⟩ | ⟨x, l, c', m, n', D, Pl, hcs, _, hl, hm, hmm, _, hi⟩
  · simp [Value.cells] at hcs
    obtain ⟨rfl, rfl, rfl⟩ := hcs
    exact ⟨fun _ => ⟨#[]⟩, fun k hk => by omega⟩
  · simp [Value.cells] at hcs
    obtain ⟨rfl, rfl, rfl⟩ := hcs
    have hnm : n ≤ m := by rw [hmm]; split <;> omega
    have each : ∀ k, k < n → ∃ q : ByteArray, W.cell? (x.add k) = some (.string q) := fun k hk => by
      obtain ⟨cs', h1, h2⟩ := hi k (by omega)
      rw [c9] at h1
      obtain ⟨_, hlen, hcell⟩ := World.cells?_some h1
      obtain ⟨u0, rfl⟩ := len_one hlen
      obtain ⟨s, e0, -, -⟩ := DataW.trod_string Ybad.underlying9 h2
      simp at e0
      subst e0
      have g0 := hcell 0 (by omega)
      rw [Deep.add_add] at g0
      exact ⟨s, by simpa using g0⟩
    obtain ⟨q, hq⟩ := Deep.choose_lt each
    refine ⟨q, fun k hk => ?_⟩
    have c0 := hq k hk
    have z0 := hq 0 (by omega)
    have z := spot_none (w := W) (a := x) (by simpa [Addr.add] using z0)
    rw [z, add_none] at c0
    exact ⟨x.block, x.off, by rw [← z], c0⟩

end Go.Proofs.YbulkavwiDoor
