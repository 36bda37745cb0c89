/-
  The walk of zzs2355bcheck over a balanced tree.
-/
import Derived.Test.YbulkavtcAvl
namespace Go.Proofs.Ybulkavtc
open Go.RowKit

set_option maxRecDepth 100000 in
set_option maxHeartbeats 1000000 in
theorem check_nil (d : Nat) (w : World) :
    Calls Yba.prog 8 #[.pointer none, .int .i64 d] w fun x w' => x = .returned (.tuple #[.int .i64 0, .int .i64 0, .bool true]) ∧ w' = w := by
  go_enter Yba.func8, Yba.ntmps8
  go_wp2_with fail
  go_ret3
  exact ⟨rfl, rfl⟩

theorem tup3 {a a' b b' : Int} (h : a = a') (h2 : b = b') : Ending.returned (.tuple #[.int .i64 a, .int .i64 b, .bool true]) = .returned (.tuple #[.int .i64 a', .int .i64 b', .bool true]) := by rw [h, h2]

set_option maxRecDepth 100000 in
set_option maxHeartbeats 1000000 in
theorem check_node (b d h n hl nl hr nr : Nat) (s e : ByteArray) (l r : Option Addr) (w : World) (ib : IsNode w b s e l r h n) (hd : d ≤ 64) (c1 : hl ≤ hr + 1) (c2 : hr ≤ hl + 1)
    (hh : hl ≤ 100 ∧ hr ≤ 100 ∧ nl ≤ 100 ∧ nr ≤ 100) (eh : h = 1 + max hl hr) (en : n = nl + 1 + nr)
    (kl : Calls Yba.prog 8 #[.pointer l, .int .i64 ((d : Int) + 1)] w fun x w' => x = .returned (.tuple #[.int .i64 hl, .int .i64 nl, .bool true]) ∧ w' = w)
    (kr : Calls Yba.prog 8 #[.pointer r, .int .i64 ((d : Int) + 1)] w fun x w' => x = .returned (.tuple #[.int .i64 hr, .int .i64 nr, .bool true]) ∧ w' = w) :
    Calls Yba.prog 8 #[.pointer (some ⟨b, 0, none⟩), .int .i64 d] w fun x w' => x = .returned (.tuple #[.int .i64 h, .int .i64 n, .bool true]) ∧ w' = w := by
  obtain ⟨-, -, b2, b3, b4, b5⟩ := ib
  obtain ⟨h1, h2, h3, h4⟩ := hh
  subst eh
  subst en
  have KL := kl
  have HL : Hid (Calls Yba.prog 8 #[.pointer l, .int .i64 ((d : Int) + 1)] w fun x w' => x = .returned (.tuple #[.int .i64 hl, .int .i64 nl, .bool true]) ∧ w' = w) := kl
  have HR : Hid (Calls Yba.prog 8 #[.pointer r, .int .i64 ((d : Int) + 1)] w fun x w' => x = .returned (.tuple #[.int .i64 hr, .int .i64 nr, .bool true]) ∧ w' = w) := kr
  clear kl kr KL
  go_enter Yba.func8, Yba.ntmps8
  go_wp2_with fail
  refine HL.out.mono ?_
  rintro x w' ⟨rfl, rfl⟩
  go_wp2_with fail
  refine HR.out.mono ?_
  rintro x w' ⟨rfl, rfl⟩
  go_wp2_with fail
  all_goals go_ret3
  all_goals exact ⟨tup3 (by omega) (by omega), rfl⟩

theorem check_n (B : Nat) : ∀ (n d h : Nat) (p : Option Addr) (ks : List Nat) (w : World), ks.length ≤ n → AV w B h p ks → ks.length ≤ 90 → d + h ≤ 65 →
    Calls Yba.prog 8 #[.pointer p, .int .i64 (d : Int)] w fun x w' => x = .returned (.tuple #[.int .i64 h, .int .i64 ks.length, .bool true]) ∧ w' = w
  | 0, d, h, p, ks, w, h0, t, hn, hd => by
    rcases t.inv with ⟨rfl, rfl, rfl⟩ | ⟨b, j, l, r, hl, hr, lks, rks, rfl, e2, e3, t1, t2, rfl, eh, c1, c2⟩
    · exact check_nil d w
    · simp at h0
  | n + 1, d, h, p, ks, w, h0, t, hn, hd => by
    rcases t.inv with ⟨rfl, rfl, rfl⟩ | ⟨b, j, l, r, hl, hr, lks, rks, rfl, e2, e3, t1, t2, rfl, eh, c1, c2⟩
    · exact check_nil d w
    · have z1 := t1.size
      have z2 := t2.size
      simp only [List.length_append, List.length_cons] at hn h0
      refine check_node b d h _ hl lks.length hr rks.length _ _ l r w e3 (by omega) c1 c2 (by omega) eh (by simp; omega) ?_ ?_
      · have := check_n B n (d + 1) hl l lks w (by omega) t1 (by omega) (by omega)
        simpa using this
      · have := check_n B n (d + 1) hr r rks w (by omega) t2 (by omega) (by omega)
        simpa using this

theorem check_any (B h : Nat) (p : Option Addr) (ks : List Nat) (w : World) (t : AV w B h p ks) (hn : ks.length ≤ 90) :
    Calls Yba.prog 8 #[.pointer p, .int .i64 0] w fun x w' => x = .returned (.tuple #[.int .i64 h, .int .i64 ks.length, .bool true]) ∧ w' = w :=
  check_n B ks.length 0 h p ks w (Nat.le_refl _) t hn (by have := t.size; omega)

end Go.Proofs.Ybulkavtc
