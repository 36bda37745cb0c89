/-
  The walks of appendTo and spans.
-/
import Derived.Test.YbulkavtcAvl
import Derived.OwnWalk
namespace Go.Proofs.Ybulkavtc
open Go.RowKit

theorem Yba.info31 : (Yba.prog.info? 31).map (fun i => (i.zero, i.size, i.bytes)) = some (some (.agg #[.string ⟨#[]⟩, .string ⟨#[]⟩]), 2, 32) := by kernel_rfl

def cellsOf : List Nat → List Value
  | [] => []
  | i :: ks => .string (sB i) :: .string (eB i) :: cellsOf ks

theorem cellsOf_append (a b : List Nat) : cellsOf (a ++ b) = cellsOf a ++ cellsOf b := by
  induction a with
  | nil => rfl
  | cons i a ih => simp [cellsOf, ih]

/-- What appendTo's caller is told: w0: the world in which the tree lies; v: what came in. -/
def Appended (w0 : World) (m : Nat) (xs : List Value) (ks : List Nat) (x : Ending) (w' : World) : Prop :=
  ∃ v', x = .returned v' ∧ w'.ownsRow w0.heap.size 31 2 v' (m + ks.length) (xs ++ cellsOf ks) ∧ Below w0.heap.size w0 w'

set_option maxRecDepth 100000 in
set_option maxHeartbeats 1000000 in
theorem appendTo_nil (v : Value) (m : Nat) (xs : List Value) (w0 w : World) (ho : w.ownsRow w0.heap.size 31 2 v m xs) (hb : Below w0.heap.size w0 w) :
    Calls Yba.prog 10 #[.pointer none, v] w (Appended w0 m xs []) := by
  go_enter Yba.func10, Yba.ntmps10
  go_wp2_with fail
  go_ret
  exact ⟨v, rfl, by simpa [cellsOf] using ho, hb⟩

set_option maxRecDepth 100000 in
set_option maxHeartbeats 1000000 in
theorem appendTo_node (b j h n m : Nat) (l r : Option Addr) (lks rks : List Nat) (v : Value) (xs : List Value) (w0 w : World)
    (ib : IsNode w0 b (sB j) (eB j) l r h n) (ho : w.ownsRow w0.heap.size 31 2 v m xs) (hb : Below w0.heap.size w0 w) (hm : m + lks.length + 1 + rks.length ≤ 1000)
    (hl : Hid (∀ (v : Value) (m : Nat) (xs : List Value) (w : World), w.ownsRow w0.heap.size 31 2 v m xs → Below w0.heap.size w0 w → m + lks.length ≤ 1000 → Calls Yba.prog 10 #[.pointer l, v] w (Appended w0 m xs lks)))
    (hr : Hid (∀ (v : Value) (m : Nat) (xs : List Value) (w : World), w.ownsRow w0.heap.size 31 2 v m xs → Below w0.heap.size w0 w → m + rks.length ≤ 1000 → Calls Yba.prog 10 #[.pointer r, v] w (Appended w0 m xs rks))) :
    Calls Yba.prog 10 #[.pointer (some ⟨b, 0, none⟩), v] w (Appended w0 m xs (lks ++ j :: rks)) := by
  have lb := cell_lt ib.1
  obtain ⟨b0, b1, b2, b3, -, -⟩ := ib
  obtain ⟨i0, hi, hz0, hz1, hz2⟩ := info_parts Yba.info31
  have HB : Hid (Below w0.heap.size w0 w) := hb
  have b2' := (hb.cell (p := ⟨b, 2, none⟩) lb).trans b2
  have B0 : Hid (w0.cell? ⟨b, 0, none⟩ = some (.string (sB j))) := b0
  have B1 : Hid (w0.cell? ⟨b, 1, none⟩ = some (.string (eB j))) := b1
  have B3 : Hid (w0.cell? ⟨b, 3, none⟩ = some (.pointer r)) := b3
  clear b0 b1 b2 b3 hb
  go_enter Yba.func10, Yba.ntmps10
  go_wp2_with fail
  refine (hl.out v m xs w ho HB.out (by omega)).mono ?_
  rintro x w1 ⟨v1, rfl, ho1, hb1⟩
  have b0 := (hb1.cell (p := ⟨b, 0, none⟩) lb).trans B0.out
  have b1 := (hb1.cell (p := ⟨b, 1, none⟩) lb).trans B1.out
  clear b2'
  go_wp2_with (at_builtin; refine wpList_append_own _ rfl _ _ 28 rfl w0.heap.size 31 i0 (.agg #[.string ⟨#[]⟩, .string ⟨#[]⟩]) 2 32 Yba.underlying28 hi hz0 hz1 hz2 rfl (by decide) _ _ _ rfl (ho1.alloc _) ⟨w1.heap.size, 0, none⟩ 1 1 [.string (sB j), .string (eB j)] rfl rfl ?c1 ?c2 ?c3 ?c4 ?c5 ?_)
  case c1 => 
    intro k u hk
    match k, hk with
    | 0, hk => simp at hk; subst hk; simp [Addr.add]
    | 1, hk => simp at hk; subst hk; simp [Addr.add]
  case c2 => intro u hu; simp at hu; rcases hu with rfl | rfl <;> rfl
  case c3 => unfold maxLen; omega
  case c4 => omega
  case c5 => have := hb1.size; simp; omega
  intro v2 w2 ho2 hg2 _
  have hb2 : Below w0.heap.size w0 w2 := (hb1.alloc hb1.size _).grown hg2 (by have := hb1.size; simp; omega) (fun k hk => (ho1.lt k hk).1)
  have b3 := (hb2.cell (p := ⟨b, 3, none⟩) lb).trans B3.out
  clear b0 b1 hg2
  go_wp2_with fail
  refine (hr.out v2 (m + lks.length + 1) _ w2 ho2 hb2 (by omega)).mono ?_
  rintro x w3 ⟨v3, rfl, ho3, hb3⟩
  go_wp2_with fail
  go_ret
  refine ⟨v3, rfl, ?_, hb3⟩
  have e1 : m + (lks ++ j :: rks).length = m + lks.length + 1 + rks.length := by simp; omega
  have e2 : xs ++ cellsOf (lks ++ j :: rks) = xs ++ (cellsOf lks ++ [.string (sB j), .string (eB j)]) ++ cellsOf rks := by simp [cellsOf_append, cellsOf]
  rw [e1, e2]
  exact ho3

theorem appendTo_n (B : Nat) (w0 : World) : ∀ (n h : Nat) (p : Option Addr) (ks : List Nat) (v : Value) (m : Nat) (xs : List Value) (w : World), ks.length ≤ n → AV w0 B h p ks → w.ownsRow w0.heap.size 31 2 v m xs → Below w0.heap.size w0 w → m + ks.length ≤ 1000 →
    Calls Yba.prog 10 #[.pointer p, v] w (Appended w0 m xs ks)
  | 0, h, p, ks, v, m, xs, w, h0, t, ho, hb, hn => by
    rcases t.inv with ⟨rfl, rfl, rfl⟩ | ⟨b, j, l, r, hl, hr, lks, rks, rfl, e2, e3, t1, t2, rfl, eh, c1, c2⟩
    · exact appendTo_nil v m xs w0 w ho hb
    · simp at h0
  | n + 1, h, p, ks, v, m, xs, w, h0, t, ho, hb, hn => by
    rcases t.inv with ⟨rfl, rfl, rfl⟩ | ⟨b, j, l, r, hl, hr, lks, rks, rfl, e2, e3, t1, t2, rfl, eh, c1, c2⟩
    · exact appendTo_nil v m xs w0 w ho hb
    · simp only [List.length_append, List.length_cons] at hn h0
      refine appendTo_node b j h _ m l r lks rks v xs w0 w e3 ho hb (by omega) ?_ ?_
      · intro v m xs w ho hb hm
        exact appendTo_n B w0 n hl l lks v m xs w (by omega) t1 ho hb hm
      · intro v m xs w ho hb hm
        exact appendTo_n B w0 n hr r rks v m xs w (by omega) t2 ho hb hm

theorem appendTo_any (B h : Nat) (p : Option Addr) (ks : List Nat) (v : Value) (m : Nat) (xs : List Value) (w0 w : World) (t : AV w0 B h p ks) (ho : w.ownsRow w0.heap.size 31 2 v m xs) (hb : Below w0.heap.size w0 w) (hm : m + ks.length ≤ 1000) :
    Calls Yba.prog 10 #[.pointer p, v] w (Appended w0 m xs ks) := appendTo_n B w0 ks.length h p ks v m xs w (Nat.le_refl _) t ho hb hm

set_option maxRecDepth 100000 in
set_option maxHeartbeats 1000000 in
theorem spans_any (B h : Nat) (p : Option Addr) (ks : List Nat) (w : World) (t : AV w B h p ks) (hn : ks.length ≤ 1000) :
    Calls Yba.prog 6 #[.pointer p] w (Appended w 0 [] ks) := by
  obtain ⟨i0, hi, hz0, hz1, hz2⟩ := info_parts Yba.info31
  have tt := t.top
  go_enter Yba.func6, Yba.ntmps6
  go_wp2_with (first | (go_at_call 11; refine (len_any p h ks.length _ tt).mono ?_; rintro x w' ⟨rfl, rfl⟩)
                     | (at_make; refine wpList_make_own _ rfl _ _ 28 rfl w'.heap.size 31 i0 (.agg #[.string ⟨#[]⟩, .string ⟨#[]⟩]) 2 Yba.underlying28 hi hz0 hz1 .i64 .i64 _ ks.length rfl rfl rfl (by rw [hz2]; omega) (by unfold maxLen; omega) (Nat.le_refl _) ?_; intro w1 ho1 hg1))
  have hb1 : Below w'.heap.size w' w1 := (Below.refl _ _).grown hg1 (Nat.le_refl _) (fun k hk => by cases hk)
  refine (appendTo_any B h p ks _ 0 [] w' w1 t ho1 hb1 (by omega)).mono ?_
  rintro x w2 ⟨v, rfl, ho2, hb2⟩
  go_wp2_with fail
  go_ret
  exact ⟨v, rfl, ho2, hb2⟩

end Go.Proofs.Ybulkavtc
