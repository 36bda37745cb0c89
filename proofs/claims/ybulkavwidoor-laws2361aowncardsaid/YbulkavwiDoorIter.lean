/-
  The iterator: descend, below's function value.
-/
import Derived.Test.YbulkavwiDoorRange
namespace Go.Proofs.YbulkavwiDoor
open Go.RowKit Go.Shelf
set_option linter.unusedSimpArgs false
set_option linter.unusedVariables false
attribute [local go_sem] Oper.semAt_some

/-- The first k that come. -/
def upto (kid : Nat → Nat) (a k : Nat) : List Nat := (List.range k).map fun j => kid (a + j)

theorem upto_succ (kid : Nat → Nat) (a k : Nat) : upto kid a (k + 1) = upto kid a k ++ [kid (a + k)] := by
  unfold upto
  rw [List.range_succ, List.map_append]
  rfl

theorem upto_split (kid : Nat → Nat) (a : Nat) : ∀ (v k : Nat), k < v → ∃ rest, upto kid a v = upto kid a k ++ kid (a + k) :: rest
  | 0, k, h => by omega
  | v + 1, k, h => by
    rw [upto_succ]
    by_cases e : k = v
    · subst e; exact ⟨[], rfl⟩
    · obtain ⟨rest, hr⟩ := upto_split kid a v k (by omega)
      exact ⟨rest ++ [kid (a + v)], by rw [hr]; simp⟩

def encP (x : Nat) : Value := .pointer (some ⟨x, 0, none⟩)

theorem Tree.grown {w W : World} {pb nb mb n c a : Nat} {ca : Option Addr} {kid sch : Nat → Nat} (t : Tree w pb nb mb ca n c a kid sch) (hb : Below w.heap.size w W) : Tree W pb nb mb ca n c a kid sch :=
  ⟨t.hn, t.hc, t.hm, t.ha, fun g hg => (t.kids g hg).grown hb, t.some, (hb.cell (p := ⟨pb, 2, none⟩) (cell_lt t.cell)).trans t.cell, t.ne, t.wm.grown hb, t.wn.grown hb, t.sm, t.sn⟩

theorem children_any (pb nb mb n c a : Nat) (ca : Option Addr) (kid sch : Nat → Nat) (w : World) (t : Tree w pb nb mb ca n c a kid sch)
    (h3 : w.cell? ⟨pb, 3, none⟩ = some (.map none)) (f3 : w.frozen? ⟨pb, 3, none⟩ = false) (hmp : mb ≠ pb) (hnp : nb ≠ pb) :
    Calls Ybad.prog 20 #[.pointer (some ⟨pb, 0, none⟩), .pointer (some ⟨nb, 0, none⟩)] w fun e w' => ∃ sl, e = .returned sl ∧ Own ca a n sl ∧ Turn pb w w' := by
  by_cases h : n ≤ 16
  · refine (children_few pb nb mb n c a ca kid sch w t h).mono ?_
    rintro e w' ⟨sl, he, ho, hb⟩
    exact ⟨sl, he, ho, Turn.of_below hb (cell_lt t.cell)⟩
  · exact children_many pb nb mb n c a ca kid sch w t (by omega) h3 f3 hmp hnp

/-- At the wide fence no depth is asked. -/
theorem round_any {m m' : Nat} {l : Nat} {f : FuncId} {tmps : Array Value} {assign body : Code} {w : World} {R : Ending → World → Prop} (h : RoundIn Fence.wide m Ybad.prog l f tmps assign body w R) : RoundIn Fence.wide m' Ybad.prog l f tmps assign body w R :=
  ⟨h.1, fun c cs _ => h.2 c cs (room_wide _)⟩

set_option maxRecDepth 100000 in
set_option maxHeartbeats 2000000 in
theorem descend_in (m l pb nb mb n c a gc cc n₀ : Nat) (ca : Option Addr) (kid sch : Nat → Nat) (J : List Nat → World → Prop) (W : World) (t : Tree W pb nb mb ca n c a kid sch)
    (h3 : W.cell? ⟨pb, 3, none⟩ = some (.map none)) (f3 : W.frozen? ⟨pb, 3, none⟩ = false) (hmp : mb ≠ pb) (hnp : nb ≠ pb) (hc : W.cell? ⟨gc, 0, none⟩ = some (.pointer (some ⟨nb, 0, none⟩))) (hgn : ∀ g, ca = some ⟨g, 0, none⟩ → g < n₀ ∧ g ≠ pb)
    (hJ : ∀ W', Turn pb W W' → J [] W')
    (hY : ∀ pre x rest W1, upto kid a (n - a) = pre ++ x :: rest → J pre W1 → YieldAt Fence.wide m Ybad.prog l #[encP x] W1 fun e W' => e = .returned (.bool true) ∧ J (pre ++ [x]) W' ∧ Below n₀ W1 W') :
    CallsIn Fence.wide m Ybad.prog 19 #[.pointer (some ⟨pb, 0, none⟩), .slice (some ⟨gc, 0, none⟩) 1 cc, .func (.yield l) #[] #[]] W fun e W' => e = .returned (.bool true) ∧ J (upto kid a (n - a)) W' := by
  have HC : Hid (Calls Ybad.prog 20 #[.pointer (some ⟨pb, 0, none⟩), .pointer (some ⟨nb, 0, none⟩)] W fun e w' => ∃ sl, e = .returned sl ∧ Own ca a n sl ∧ Turn pb W w') := children_any pb nb mb n c a ca kid sch W t h3 f3 hmp hnp
  have HK : Hid (∀ g, ca = some ⟨g, 0, none⟩ → Kids W g 0 n kid sch) := t.kids
  have HY : Hid (∀ pre x rest W1, upto kid a (n - a) = pre ++ x :: rest → J pre W1 → YieldAt Fence.wide m Ybad.prog l #[encP x] W1 fun e W' => e = .returned (.bool true) ∧ J (pre ++ [x]) W' ∧ Below n₀ W1 W') := hY
  have HJ : Hid (∀ W', Turn pb W W' → J [] W') := hJ
  have HG : Hid (∀ g, ca = some ⟨g, 0, none⟩ → g < n₀ ∧ g ≠ pb) := hgn
  have ha := t.ha
  have hn := t.hn
  clear hY hJ t hgn h3 f3
  refine callsIn_of_wp Ybad.func19 rfl trivial ?_ rfl
  simp only [Ybad.ntmps19, List.size_toArray, List.length_cons, List.length_nil, Nat.reduceAdd, Nat.reduceSub, Array.replicate_succ, Array.replicate_zero, List.push_toArray, List.append_toArray, List.nil_append, List.cons_append]
  gi_wp2_with (refine ⟨trivial, (fun h => by cases h), ?_⟩; gi_at_call 20; refine (callsIn_wide.2 HC.out).mono ?_; rintro e W1 ⟨sl, rfl, ⟨sa, sc, rfl, hsa⟩, hT⟩)
  have J0 := HJ.out W1 hT
  have HSA : Hid (a < n → ∃ g, ca = some ⟨g, 0, none⟩ ∧ sa = some ⟨g, a, none⟩) := hsa
  have HT : Hid (Turn pb W W1) := hT
  clear HC HJ hsa hT
  gi_loopw [15, 8] (fun i _ wr => ∃ k : Nat, k ≤ n - a ∧ i = .int .i64 k ∧ J (upto kid a k) wr ∧ Below n₀ W1 wr) (fun i _ _ => (n - a) - (intOf i).toNat)
  case atStart => exact ⟨0, by omega, rfl, J0, Below.refl _ _⟩
  case round =>
    obtain ⟨k, hk, rfl, hJk, hb⟩ := hrel
    by_cases hlt : k < n - a
    · obtain ⟨g, hg, hsg⟩ := HSA.out (by omega)
      obtain ⟨hgn, hgp⟩ := HG.out g hg
      have hK1 := HT.out.kids (HK.out g hg) hgp
      have x0 := (hb.cell (p := ⟨g, 0 + (a + k), none⟩) hgn).trans (hK1 (a + k) (by omega)).1
      simp only [Nat.zero_add] at x0
      obtain ⟨rest, hrest⟩ := upto_split kid a (n - a) k hlt
      obtain ⟨fn, tmps, assign, body, hy, hR⟩ := HY.out (upto kid a k) (kid (a + k)) rest wr hrest hJk
      subst hsg
      have HR : Hid (RoundIn Fence.wide m Ybad.prog l fn tmps assign body wr fun e W' => e = .returned (.bool true) ∧ J (upto kid a k ++ [kid (a + k)]) W' ∧ Below n₀ wr W') := hR
      have HX : Hid (upto kid a (k + 1) = upto kid a k ++ [kid (a + k)]) := upto_succ kid a k
      have k1 : (0 : Int) ≤ (k : Int) := by omega
      have k2 : (k : Int) < ((n - a : Nat) : Int) := by omega
      have k3 : k < n - a := hlt
      unfold encP at hy
      clear hR hrest hK1 hJk J0
      generalize kid (a + k) = x at *
      gi_wp2
      refine ⟨(fun h => by cases h), ?_⟩
      refine (round_any HR.out).mono ?_
      rintro e W3 ⟨rfl, hJ3, hb3⟩
      gi_wp2
      go_roundw
      case rel => exact ⟨k + 1, by omega, by go_num, by rw [HX.out]; exact hJ3, hb.trans hb3⟩
      case measure => simp [intOf]; omega
    · obtain rfl : k = n - a := by omega
      gi_wp2
      go_ret
      exact ⟨rfl, hJk⟩

set_option maxRecDepth 100000 in
set_option maxHeartbeats 1000000 in
/-- below's function value, handed to a range. -/
theorem iterates (m pb nb mb n c a b1 b2 gc cc n₀ : Nat) (ca : Option Addr) (kid sch : Nat → Nat) (w : World) (t : Tree w pb nb mb ca n c a kid sch)
    (h3 : w.cell? ⟨pb, 3, none⟩ = some (.map none)) (f3 : w.frozen? ⟨pb, 3, none⟩ = false) (hmp : mb ≠ pb) (hnp : nb ≠ pb)
    (k1 : w.cell? ⟨b1, 0, none⟩ = some (.pointer (some ⟨pb, 0, none⟩))) (k2 : w.cell? ⟨b2, 0, none⟩ = some (.slice (some ⟨gc, 0, none⟩) 1 cc)) (k3 : w.cell? ⟨gc, 0, none⟩ = some (.pointer (some ⟨nb, 0, none⟩))) (hgn : ∀ g, ca = some ⟨g, 0, none⟩ → g < n₀ ∧ g ≠ pb) :
    Iterates pb n₀ m 18 #[.pointer (some ⟨b1, 0, none⟩), .pointer (some ⟨b2, 0, none⟩)] encP (upto kid a (n - a)) w := by
  intro l J W hW _ hJ hY
  have lp := cell_lt h3
  have hd := descend_in (m - 1) l pb nb mb n c a gc cc n₀ ca kid sch J W (t.grown hW) ((hW.cell (p := ⟨pb, 3, none⟩) lp).trans h3) ((hW.frozen (p := ⟨pb, 3, none⟩) lp).trans f3) hmp hnp ((hW.cell (p := ⟨gc, 0, none⟩) (cell_lt k3)).trans k3) hgn hJ
    (fun pre x rest W1 hx hj => hY pre x rest W1 hx hj)
  have j1 := (hW.cell (p := ⟨b1, 0, none⟩) (cell_lt k1)).trans k1
  have j2 := (hW.cell (p := ⟨b2, 0, none⟩) (cell_lt k2)).trans k2
  have HD : Hid (CallsIn Fence.wide (m - 1) Ybad.prog 19 #[.pointer (some ⟨pb, 0, none⟩), .slice (some ⟨gc, 0, none⟩) 1 cc, .func (.yield l) #[] #[]] W fun e W' => e = .returned (.bool true) ∧ J (upto kid a (n - a)) W') := hd
  clear hd hY hJ h3 f3 k1 k2 k3
  refine callsIn_of_wp Ybad.func18 rfl trivial ?_ rfl
  simp only [Ybad.ntmps18, List.size_toArray, List.length_cons, List.length_nil, Nat.reduceAdd, Nat.reduceSub, Array.replicate_succ, Array.replicate_zero, List.push_toArray, List.append_toArray, List.nil_append, List.cons_append]
  gi_wp2_with (refine ⟨trivial, (fun h => by cases h), ?_⟩; gi_at_call 19; refine HD.out.mono ?_; rintro e W1 ⟨rfl, hJ1⟩)
  go_end0
  exact ⟨⟨_, rfl⟩, hJ1⟩

end Go.Proofs.YbulkavwiDoor
