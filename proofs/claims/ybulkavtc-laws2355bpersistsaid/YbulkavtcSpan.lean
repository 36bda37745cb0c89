/-
  The walk of zzs2355bspan.
-/
import Derived.Test.YbulkavtcAvl
import Derived.Laws.BytesArg
namespace Go.Proofs.Ybulkavtc
open Go.RowKit

theorem conv_one (k : Nat) (b : Nat) (W : World) (hc : W.cell? ⟨b, 0, none⟩ = some (.int .u8 (k : Int))) :
    (convert 22 9 (.slice (some ⟨b, 0, none⟩) 1 1)).run Yba.prog W = .ok (.string ⟨#[UInt8.ofNat k]⟩) W := by
  have h := run_convert_bytes_arg (P := Yba.prog) W 22 5 Yba.underlying22 Yba.underlying5 b 0 1 1 [(k : Int)] rfl (fun i hi => by
    obtain rfl : i = 0 := by omega
    simpa using hc) 9 Yba.underlying9
  rw [h]
  simp [strOfNums]

set_option maxRecDepth 100000 in
set_option maxHeartbeats 1000000 in
theorem span_any (i : Nat) (w : World) (hi : i < 85) :
    Calls Yba.prog 7 #[.int .i64 i] w fun x w' => x = .returned (.agg #[.string (sB i), .string (eB i)]) ∧ Below w.heap.size w w' := by
  have h1 : (i : Int) < 85 := by omega
  have c1 : ∀ (b : Nat) (W : World), W.cell? ⟨b, 0, none⟩ = some (.int .u8 (3 * (i : Int))) → (convert 22 9 (.slice (some ⟨b, 0, none⟩) 1 1)).run Yba.prog W = .ok (.string (sB i)) W :=
    fun b W h => conv_one (3 * i) b W (by rw [h]; simp)
  have c2 : ∀ (b : Nat) (W : World), W.cell? ⟨b, 0, none⟩ = some (.int .u8 (3 * (i : Int) + 1)) → (convert 22 9 (.slice (some ⟨b, 0, none⟩) 1 1)).run Yba.prog W = .ok (.string (eB i)) W :=
    fun b W h => conv_one (3 * i + 1) b W (by rw [h]; simp)
  go_enter Yba.func7, Yba.ntmps7
  go_wp2
  exact bodyPost_ret (v := .agg #[.string (sB i), .string (eB i)]) (by simp [results, Yba.results7, go_sem]) rfl ⟨rfl, (((Below.refl _ _).alloc (Nat.le_refl _) _).alloc (by simp) _).alloc (by simp; omega) _⟩

end Go.Proofs.Ybulkavtc
