/-
  build over every row of bytes that came in; what the callers of spans are told.
-/
import Derived.Test.YbulkavtcBuild
import Derived.Test.YbulkavtcApp
import Derived.Test.YbulkavtcCheck
namespace Go.Proofs.Ybulkavtc
open Go.RowKit

set_option maxRecDepth 100000 in
set_option maxHeartbeats 1000000 in
theorem build_empty (a : Option Addr) (cap pb : Nat) (w : World) (r0 : Rel w pb none (fun _ => false) w) :
    Calls Yba.prog 5 #[.slice a 0 cap, .pointer (some ⟨pb, 0, none⟩)] w fun x w' => ∃ p pr, x = .returned (.pointer p) ∧ Rel w pb p pr w' := by
  go_enter Yba.func5, Yba.ntmps5
  go_wp2_with fail
  go_loopw [5, 11] (fun t i wr => i = .int .i64 0 ∧ t = .pointer none ∧ Rel w pb none (fun _ => false) wr) (fun _ i _ => 0)
  case atStart => exact ⟨rfl, rfl, r0⟩
  case round =>
    obtain ⟨rfl, rfl, hr⟩ := hrel
    go_wp2_with fail
    go_ret
    exact ⟨none, _, rfl, hr⟩

def flags0 : Array Value := Array.replicate 85 (.bool false)

theorem zero23 (w : World) : (zeroValue 23).run Yba.prog w = .ok (.agg flags0) w := by kernel_rfl

theorem flags0_at (j : Nat) (h : j < 85) : flags0[j]? = some (.bool false) := by
  unfold flags0
  rw [Array.getElem?_replicate, if_pos h]

theorem rel_start (w : World) : Rel (w.alloc (.cells flags0 23)) w.heap.size none (fun _ => false) (w.alloc (.cells flags0 23)) := by
  refine ⟨0, ?_, ?_, Below.refl _ _, by simp⟩
  · have : keys (fun _ => false) = [] := by unfold keys; simp
    rw [this]
    exact AV.nil _ _
  · intro j hj
    constructor
    · rw [World.cell?_alloc_mark]
      exact flags0_at j hj
    · simp [go_sem]

/-- A row of bytes that came in: empty, or its cells. -/
def RowU8 (w : World) (a : Option Addr) (len : Nat) : Prop :=
  len = 0 ∨ ∃ b off, ∃ zs : Nat → Nat, a = some ⟨b, off, none⟩ ∧ b < w.heap.size ∧ (∀ k, zs k < 256) ∧ ∀ k, k < len → w.cell? ⟨b, off + k, none⟩ = some (.int .u8 (zs k))

theorem build_any (a : Option Addr) (len cap : Nat) (w : World) (hl : len ≤ 1024) (hx : RowU8 w a len) :
    Calls Yba.prog 5 #[.slice a len cap, .pointer (some ⟨w.heap.size, 0, none⟩)] (w.alloc (.cells flags0 23)) fun x w' => ∃ p pr, x = .returned (.pointer p) ∧ Rel (w.alloc (.cells flags0 23)) w.heap.size p pr w' := by
  rcases hx with rfl | ⟨b, off, zs, rfl, hb, hz, hc⟩
  · exact build_empty a cap w.heap.size _ (rel_start w)
  · refine build_some b off len cap w.heap.size zs _ hl hz (fun k hk => ?_) hb (rel_start w)
    rw [World.cell?_alloc_lt _ _ _ hb]
    exact hc k hk

end Go.Proofs.Ybulkavtc
