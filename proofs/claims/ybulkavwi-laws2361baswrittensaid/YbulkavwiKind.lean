/-
  The walks of zzs2361bkind and written.
-/
import Derived.Test.YbulkavwiRows
import Derived.WalkKit
import Derived.WalkSpells
import Derived.WalkLawsBesides
import Derived.Laws.BytesArg
import Derived.Laws.IdiomStrings
namespace Go.Proofs.Ybulkavwi
open Go.RowKit

set_option maxRecDepth 100000 in
set_option maxHeartbeats 1000000 in
theorem kind_any (n : Int) (raw : ByteArray) (w : World) (h0 : 0 ≤ n) (h1 : n ≤ 255) :
    Calls Yba.prog 6 #[.int .u8 n, .string raw] w fun e w' => ∃ s, e = .returned (.string s) ∧ w' = w := by
  go_enter Yba.func6, Yba.ntmps6
  go_wp2
  all_goals go_ret
  all_goals exact ⟨_, rfl, rfl⟩

set_option maxRecDepth 100000 in
set_option maxHeartbeats 1000000 in
theorem written_text (s : ByteArray) (off : Int) (a : Option Addr) (l c : Nat) (lone : Bool) (w : World) (h1 : (s.toList == [116, 114, 117, 101]) = false) (h2 : (s.toList == [102, 97, 108, 115, 101]) = false) :
    Calls Yba.prog 7 #[.agg #[.string s, .int .i64 off, .slice a l c, .bool lone]] w fun e w' => e = .returned (.slice a l c) ∧ Below w.heap.size w w' := by
  go_enter Yba.func7, Yba.ntmps7
  go_wp2
  go_ret
  exact ⟨rfl, (Below.refl _ _).alloc (Nat.le_refl _) _⟩

/-- What a caller of written is told at 'true' and 'false': a slice that is not nil, its bytes the word's. -/
def Word (w : World) (s : ByteArray) (e : Ending) (w' : World) : Prop :=
  ∃ x cap, e = .returned (.slice (some x) s.size cap) ∧ (convert 22 9 (.slice (some x) s.size cap)).run Yba.prog w' = .ok (.string s) w' ∧ Below w.heap.size w w'

theorem bytes_world (w : World) (s : ByteArray) (b cap : Nat) (fr : Nat × Nat) (hb : b = w.heap.size) : (convert 22 9 (.slice (some ⟨b, 0, none⟩) s.size cap)).run Yba.prog (w.alloc (.cells (bytesRow s cap) 5 fr)).drew = .ok (.string s) (w.alloc (.cells (bytesRow s cap) 5 fr)).drew := by
  subst hb
  have hl : s.data.toList.length = s.size := Array.length_toList
  have h := run_convert_bytes_back (P := Yba.prog) (w.alloc (.cells (bytesRow s cap) 5 fr)).drew 22 9 5 ⟨w.heap.size, 0, none⟩ cap s.data.toList Yba.underlying22 Yba.underlying5 Yba.underlying9 (fun j hj => by
    have hadd : (⟨w.heap.size, 0, none⟩ : Addr).add j = ⟨w.heap.size, j, none⟩ := by unfold Addr.add; split <;> simp_all
    rw [hadd]
    show (w.alloc (.cells (bytesRow s cap) 5 fr)).cell? _ = _
    rw [World.cell?_alloc_mark]
    unfold bytesRow
    have hj' : j < s.data.size := by simpa using hj
    rw [Array.getElem?_append_left (by simpa using hj'), Array.getElem?_map, Array.getElem?_eq_getElem hj']
    simp)
  rw [hl] at h
  rw [h]

set_option maxRecDepth 100000 in
set_option maxHeartbeats 1000000 in
theorem written_word (s : ByteArray) (off : Int) (a : Option Addr) (l c : Nat) (lone : Bool) (w : World) (h : (s.toList == [116, 114, 117, 101]) = true ∨ ((s.toList == [116, 114, 117, 101]) = false ∧ (s.toList == [102, 97, 108, 115, 101]) = true)) :
    Calls Yba.prog 7 #[.agg #[.string s, .int .i64 off, .slice a l c, .bool lone]] w (Word w s) := by
  have k := fun (w : World) => run_bytes_of_string (P := Yba.prog) w 23 22 5 s Yba.underlying23 Yba.underlying22 Yba.underlying5
  rcases h with h | ⟨h, h'⟩
  all_goals
    go_enter Yba.func7, Yba.ntmps7
    go_wp2
    go_ret
    exact ⟨_, _, rfl, bytes_world _ s _ _ _ (by simp), (((Below.refl _ _).alloc (Nat.le_refl _) _).alloc (by simp) _).drew⟩

end Go.Proofs.Ybulkavwi
