/-
  The walk of LawS2361BAsWritten.
-/
import Derived.Test.YbulkavwiKind
namespace Go.Proofs.Ybulkavwi
open Go.RowKit

/-- The text can be turned into a string, in every later world. -/
def TextOk (w : World) (a : Option Addr) (len cap : Nat) : Prop :=
  ∃ t, ∀ w', Below w.heap.size w w' → (convert 22 9 (.slice a len cap)).run Yba.prog w' = .ok (.string t) w'

set_option maxRecDepth 100000 in
set_option maxHeartbeats 1000000 in
theorem equal_same (v : Value) (t : ByteArray) (w : World) (h : (convert 22 9 v).run Yba.prog w = .ok (.string t) w) :
    Calls Yba.prog 8 #[v, v] w fun e w' => e = .returned (.bool true) ∧ w' = w := by
  go_enter Yba.func8, Yba.ntmps8
  go_wp2
  go_ret
  exact ⟨by simp, rfl⟩

set_option maxRecDepth 100000 in
set_option maxHeartbeats 1000000 in
theorem law_written (n : Int) (raw : ByteArray) (a : Option Addr) (len cap : Nat) (off : Int) (lone : Bool) (w : World) (h0 : 0 ≤ n) (h1 : n ≤ 255) (hx : TextOk w a len cap) :
    Calls Yba.prog 3 #[.int .u8 n, .string raw, .slice a len cap, .int .i64 off, .bool lone] w fun e w' => e = .returned (.bool true) ∧ Below w.heap.size w w' := by
  have HX : Hid (TextOk w a len cap) := hx
  clear hx
  go_enter Yba.func3, Yba.ntmps3
  go_wp2_with fail
  refine (kind_any n raw w h0 h1).mono ?_
  rintro e w' ⟨s, rfl, rfl⟩
  have bw : Below w'.heap.size w' (w'.alloc (.cells #[.string s, .int .i64 off, .slice a len cap, .bool lone] 26)) := (Below.refl _ _).alloc (Nat.le_refl _) _
  have nq := fun (w : World) (a : Option Addr) (n c : Nat) => run_neq_slice_nil_any (P := Yba.prog) w 22 5 a n c 0 0 Yba.underlying22
  have eq := fun (w : World) (a : Option Addr) (n c : Nat) => Lib.run_eql_slice_nil (P := Yba.prog) w 22 5 a n c 0 0 Yba.underlying22
  by_cases c1 : (s.toList == [116, 114, 117, 101]) = true
  · go_wp2_with fail
    refine (written_word s off a len cap lone _ (.inl c1)).mono ?_
    rintro e w1 ⟨x, gc, rfl, hcv, hb⟩
    go_wp2_with fail
    go_ret
    exact ⟨rfl, bw.trans (hb.mono (by simp))⟩
  · have c1' : (s.toList == [116, 114, 117, 101]) = false := by simpa using c1
    clear c1
    by_cases c2 : (s.toList == [102, 97, 108, 115, 101]) = true
    · go_wp2_with fail
      refine (written_word s off a len cap lone _ (.inr ⟨c1', c2⟩)).mono ?_
      rintro e w1 ⟨x, gc, rfl, hcv, hb⟩
      go_wp2_with fail
      go_ret
      exact ⟨rfl, bw.trans (hb.mono (by simp))⟩
    · have c2' : (s.toList == [102, 97, 108, 115, 101]) = false := by simpa using c2
      clear c2
      go_wp2_with fail
      refine (written_text s off a len cap lone _ c1' c2').mono ?_
      rintro e w1 ⟨rfl, hb⟩
      have hbw : Below w'.heap.size w' w1 := bw.trans (hb.mono (by simp))
      obtain ⟨t, ht⟩ := HX.out
      have HE := equal_same (.slice a len cap) t w1 (ht w1 hbw)
      have HE2 : Hid (Calls Yba.prog 8 #[.slice a len cap, .slice a len cap] w1 fun e w' => e = .returned (.bool true) ∧ w' = w1) := HE
      clear HE ht
      go_wp2_with fail
      refine HE2.out.mono ?_
      rintro e w2 ⟨rfl, rfl⟩
      go_wp2_with fail
      go_ret
      exact ⟨rfl, hbw⟩

end Go.Proofs.Ybulkavwi
