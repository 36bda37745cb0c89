/-
  indexedBy of no nodes: the empty text.
-/
import Derived.Test.YbulkavwiDoorRun
import Derived.Lib.UnsafeStr
namespace Go.Proofs.YbulkavwiDoor
open Go.RowKit
set_option linter.unusedSimpArgs false
set_option linter.unusedVariables false
attribute [local go_sem ↓] Go.wp_at_zero Go.wp_at_succ
theorem data_nil (w : World) (ts : Array TypeId) (ty : TypeId) (n c : Nat) : (Builtin.unsafeSliceData_ ts ty #[.slice none n c]).run Ybad.prog w = .ok (.pointer none) w := rfl
theorem text_nil (w : World) (pt it ty : TypeId) (p : Option Addr) : (Builtin.unsafeString_ #[pt, it] ty #[.pointer p, .int .i64 0]).run Ybad.prog w = .ok (.string ⟨#[]⟩) w := Lib.run_unsafeString_none w pt it ty p
attribute [local go_sem] data_nil text_nil

set_option maxRecDepth 100000 in
set_option maxHeartbeats 1000000 in
/-- (*strings.Builder).String of a builder that holds nothing. -/
theorem string_nil (b : Nat) (w : World) (h1 : w.cell? ⟨b, 1, none⟩ = some (.slice none 0 0)) :
    Calls Ybad.prog 15 #[.pointer (some ⟨b, 0, none⟩)] w fun e w' => e = .returned (.string ⟨#[]⟩) ∧ Below w.heap.size w w' := by
  go_enter Ybad.func15, Ybad.ntmps15
  go_wp2_with fail
  go_region_held3 (fun w' => w'.cell? ⟨b, 1, none⟩ = some (.slice none 0 0)) (first | go_keep) (fail)
  go_wp2_with fail
  go_ret
  exact ⟨rfl, (Below.refl _ _).drew⟩

set_option maxRecDepth 100000 in
set_option maxHeartbeats 1000000 in
theorem by_nil (a : Option Addr) (c : Nat) (w : World) :
    Calls Ybad.prog 10 #[.slice a 0 c] w fun e w' => e = .returned (.string ⟨#[]⟩) ∧ Below w.heap.size w w' := by
  go_enter Ybad.func10, Ybad.ntmps10
  go_wp2_with fail
  go_loopw [8] (fun i wr => i = .int .i64 0 ∧ wr.cell? ⟨w.heap.size, 1, none⟩ = some (.slice none 0 0) ∧ Below w.heap.size w wr) (fun i _ => 0)
  case atStart => exact ⟨rfl, by go_simp, (Below.refl _ _).alloc (Nat.le_refl _) _⟩
  case round =>
    obtain ⟨rfl, hc, hb⟩ := hrel
    have HB : Hid (Below w.heap.size w wr) := hb
    clear hb
    go_wp2_with (go_at_call 15; refine (string_nil _ _ hc).mono ?_; rintro e w' ⟨rfl, hb'⟩)
    go_ret
    exact ⟨rfl, HB.out.trans (hb'.mono HB.out.size)⟩

end Go.Proofs.YbulkavwiDoor
