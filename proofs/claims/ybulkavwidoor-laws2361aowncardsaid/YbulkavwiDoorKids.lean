/-
  childrenOf.
-/
import Derived.Test.YbulkavwiDoorRun
namespace Go.Proofs.YbulkavwiDoor
open Go.RowKit
set_option linter.unusedSimpArgs false
set_option linter.unusedVariables false
attribute [local go_sem ↓] Go.wp_at_zero Go.wp_at_succ

/-- What childrenOf leaves of the world: block pb may be turned at its cell 3; all else that lay lies. -/
def Turn (pb : Nat) (W W' : World) : Prop := W.grownBy W' (some pb) ∧ (∀ j, j ≠ 3 → W'.cell? ⟨pb, j, none⟩ = W.cell? ⟨pb, j, none⟩) ∧ (∀ j, W'.frozen? ⟨pb, j, none⟩ = W.frozen? ⟨pb, j, none⟩)

theorem Turn.of_below {pb : Nat} {W W' : World} (h : Below W.heap.size W W') (hp : pb < W.heap.size) : Turn pb W W' :=
  ⟨⟨h.os, h.tape, h.output, h.size, fun k hk _ => h.block k hk⟩, fun j _ => h.cell (p := ⟨pb, j, none⟩) hp, fun j => h.frozen (p := ⟨pb, j, none⟩) hp⟩

/-- The instances of a node under a parent: m of them, at the row's place a. -/
def Own (ca : Option Addr) (a n : Nat) (sl : Value) : Prop := ∃ sa sc, sl = .slice sa (n - a) sc ∧ (a < n → ∃ g, ca = some ⟨g, 0, none⟩ ∧ sa = some ⟨g, a, none⟩)

/-- What childrenOf is told of the tree. -/
structure Tree (w : World) (pb nb mb : Nat) (ca : Option Addr) (n c a : Nat) (kid sch : Nat → Nat) : Prop where
  hn : n ≤ 2048
  hc : n ≤ c
  hm : c ≤ maxLen
  ha : a ≤ n
  kids : ∀ g, ca = some ⟨g, 0, none⟩ → Kids w g 0 n kid sch
  some : 0 < n → ∃ g, ca = some ⟨g, 0, none⟩
  cell : w.cell? ⟨pb, 2, none⟩ = Option.some (.slice ca n c)
  ne : mb ≠ nb
  wm : Whole w mb
  wn : Whole w nb
  sm : ∀ k, k < a → sch k = mb
  sn : ∀ k, a ≤ k → k < n → sch k = nb

set_option maxRecDepth 100000 in
set_option maxHeartbeats 1000000 in
theorem children_few (pb nb mb n c a : Nat) (ca : Option Addr) (kid sch : Nat → Nat) (w : World) (t : Tree w pb nb mb ca n c a kid sch) (h16 : n ≤ 16) :
    Calls Ybad.prog 20 #[.pointer (some ⟨pb, 0, none⟩), .pointer (some ⟨nb, 0, none⟩)] w fun e w' => ∃ sl, e = .returned sl ∧ Own ca a n sl ∧ Below w.heap.size w w' := by
  obtain ⟨hn, hc, hm, ha, hK, hs, hcell, hne, wm, wn, sm, sn⟩ := t
  have lp := cell_lt hcell
  have HI : Hid (∀ W b c', Below w.heap.size w W → W.cell? ⟨b, 0, none⟩ = some (.pointer (some ⟨nb, 0, none⟩)) → Calls Ybad.prog 24 #[.slice ca n c', .func (.func 25) #[] #[.pointer (some ⟨b, 0, none⟩)]] W fun e w' => e = .returned (.int .i64 (if a < n then (a : Int) else -1)) ∧ Below W.heap.size W w') :=
    fun W b c' hb h1 => index_any ca n c' a b nb mb kid sch W hn ha (fun g hg => (hK g hg).grown hb) hs h1 hne (wm.grown hb) (wn.grown hb) sm (fun h => sn a (Nat.le_refl _) h)
  have HS : Hid (0 < n → ∃ g, ca = some ⟨g, 0, none⟩) := hs
  have HF : Hid (∀ W g c', Below w.heap.size w W → ca = some ⟨g, 0, none⟩ → a < n → n - a ≤ c' → Calls Ybad.prog 26 #[.slice (some ⟨g, a, none⟩) (n - a) c'] W fun r w' => r = .returned (.slice (some ⟨g, a, none⟩) (n - a) (n - a)) ∧ Below W.heap.size W w') :=
    fun W g c' hb hg hlt hc' => firstRun_any g a (n - a) c' (n - a) (fun k => kid (a + k)) (fun k => sch (a + k)) W (by omega) hc' (by omega) (Nat.le_refl _)
      (fun k hk => by have := (hK g hg).grown hb (a + k) (by omega); simpa [Nat.zero_add] using this)
      (fun k hk => by rw [sn (a + k) (by omega) (by omega), sn (a + 0) (by omega) (by omega)]) (fun h => by omega)
  clear hK hs sm sn wm wn
  have g16 : decide ((n : Int) ≤ 16) = true := by simp; omega
  have q2 : (w.alloc (.cells #[.pointer (some ⟨nb, 0, none⟩)] 23)).cell? ⟨pb, 2, none⟩ = some (.slice ca n c) := by rw [World.cell?_alloc_lt _ _ _ lp]; exact hcell
  have q3 : (w.alloc (.cells #[.pointer (some ⟨nb, 0, none⟩)] 23)).cell? ⟨w.heap.size, 0, none⟩ = some (.pointer (some ⟨nb, 0, none⟩)) := by go_simp
  have hb0 : Below w.heap.size w (w.alloc (.cells #[.pointer (some ⟨nb, 0, none⟩)] 23)) := (Below.refl _ _).alloc (Nat.le_refl _) _
  go_enter Ybad.func20, Ybad.ntmps20
  by_cases hlt : a < n
  · obtain ⟨g, rfl⟩ := HS.out (by omega)
    go_wp2_with (go_at_call 24; refine (HI.out _ w.heap.size _ hb0 q3).mono ?_; rw [if_pos hlt]; rintro e w1 ⟨rfl, hb1⟩; have q4 := (hb1.cell (p := ⟨pb, 2, none⟩) (cell_lt q2)).trans q2)
    have hbb : Below w.heap.size w w1 := hb0.trans (hb1.mono hb0.size)
    refine (HF.out w1 g _ hbb rfl hlt (by omega)).mono ?_
    rintro e w2 ⟨rfl, hb2⟩
    go_wp2_with fail
    go_ret
    exact ⟨_, rfl, ⟨_, _, rfl, fun _ => ⟨g, rfl, rfl⟩⟩, hbb.trans (hb2.mono hbb.size)⟩
  · go_wp2_with (go_at_call 24; refine (HI.out _ w.heap.size _ hb0 q3).mono ?_; rw [if_neg hlt]; rintro e w1 ⟨rfl, hb1⟩)
    go_ret
    have e0 : n - a = 0 := by omega
    exact ⟨_, rfl, ⟨none, 0, congrArg (fun k => Value.slice none k 0) e0.symm, fun h => absurd h hlt⟩, hb0.trans (hb1.mono hb0.size)⟩

/-! ### The map by nodes -/

theorem equal_same (w : World) (b : Nat) : (Op.equal 23 (.pointer (some ⟨b, 0, none⟩)) (.pointer (some ⟨b, 0, none⟩))).run Ybad.prog w = .ok true w := by
  have h := eql_same w b
  simp only [binOp] at h
  cases hr : (Op.equal 23 (.pointer (some ⟨b, 0, none⟩)) (.pointer (some ⟨b, 0, none⟩))).run Ybad.prog w with
  | ok r w' =>
    simp [hr, Result.andThen] at h
    rw [h.1, h.2]
  | halt x w' => simp [hr, Result.andThen] at h

theorem equal_other (w : World) (b b' : Nat) (hne : b ≠ b') (h1 : Whole w b) (h2 : Whole w b') : (Op.equal 23 (.pointer (some ⟨b, 0, none⟩)) (.pointer (some ⟨b', 0, none⟩))).run Ybad.prog w = .ok false w := by
  have h := eql_other w b b' hne h1 h2
  simp only [binOp] at h
  cases hr : (Op.equal 23 (.pointer (some ⟨b, 0, none⟩)) (.pointer (some ⟨b', 0, none⟩))).run Ybad.prog w with
  | ok r w' =>
    simp [hr, Result.andThen] at h
    rw [h.1, h.2]
  | halt x w' => simp [hr, Result.andThen] at h

theorem key_ptr {w : World} (p : Option Addr) (e : Bool) : (Instr.checkKey e 10000 23 (.pointer p)).run Ybad.prog w = .ok () w := by
  unfold Instr.checkKey
  simp [run_underlying Ybad.underlying23, Result.andThen]

def ent (b : Nat) (v : Value) (k : Nat) : MapEntry := { key := .pointer (some ⟨b, 0, none⟩), val := v, born := k }

/-- Looked up in what the loop has laid. -/
theorem find_nil (w : World) (b : Nat) : (Instr.findKey 23 (.pointer (some ⟨b, 0, none⟩)) []).run Ybad.prog w = .ok none w := by
  simp [Instr.findKey, run_underlying Ybad.underlying23, Result.andThen, Instr.findNow]
theorem find_ask (w : World) (b : Nat) (e : MapEntry) (es : List MapEntry) (he : ∃ p, e.key = .pointer p) : (Instr.findKey 23 (.pointer (some ⟨b, 0, none⟩)) (e :: es)).run Ybad.prog w = (Instr.findAsking 23 (.pointer (some ⟨b, 0, none⟩)) (e :: es)).run Ybad.prog w := by
  obtain ⟨p, hp⟩ := he
  simp [Instr.findKey, run_underlying Ybad.underlying23, Result.andThen, Instr.findNow, hp, Instr.sameNow]
theorem ask_same (w : World) (b i k : Nat) (v : Value) (es : List MapEntry) : (Instr.findAsking 23 (.pointer (some ⟨b, 0, none⟩)) (ent b v k :: es) i).run Ybad.prog w = .ok (some (i, v)) w := by
  unfold Instr.findAsking
  simp [ent, equal_same w b, Result.andThen]
theorem ask_other (w : World) (b b' i k : Nat) (v : Value) (es : List MapEntry) (hne : b ≠ b') (h1 : Whole w b) (h2 : Whole w b') :
    (Instr.findAsking 23 (.pointer (some ⟨b, 0, none⟩)) (ent b' v k :: es) i).run Ybad.prog w = (Instr.findAsking 23 (.pointer (some ⟨b, 0, none⟩)) es (i + 1)).run Ybad.prog w := by
  conv => lhs; unfold Instr.findAsking
  simp [ent, equal_other w b b' hne h1 h2, Result.andThen]
theorem ask_nil (w : World) (b i : Nat) : (Instr.findAsking 23 (.pointer (some ⟨b, 0, none⟩)) [] i).run Ybad.prog w = .ok none w := by
  simp [Instr.findAsking]

theorem update41 (w : World) (r cl b : Nat) (es : Array MapEntry) (v : Value) (hb : w.heap[r]? = some (.map es cl)) (hf : (Instr.findKey 23 (.pointer (some ⟨b, 0, none⟩)) es.toList).run Ybad.prog w = .ok none w) :
    (Instr.mapUpdate 41 (.map (some r)) (.pointer (some ⟨b, 0, none⟩)) v).run Ybad.prog w = .ok () (w.putObj r (.map (es.push (ent b v cl)) (cl + 1))) := by
  simp only [Instr.mapUpdate, Sem.run_bind, run_underlying Ybad.underlying41, Result.andThen, MapKept.run_getObj_map hb, key_ptr, hf, MapKept.run_setObj_map _ hb]
  rfl

theorem lookup41 (w : World) (r cl b : Nat) (es : Array MapEntry) (q : Option (Nat × Value)) (hb : w.heap[r]? = some (.map es cl)) (hf : (Instr.findKey 23 (.pointer (some ⟨b, 0, none⟩)) es.toList).run Ybad.prog w = .ok q w) :
    (Instr.lookup 41 (.map (some r)) (.pointer (some ⟨b, 0, none⟩)) false).run Ybad.prog w = .ok ((q.map (·.2)).getD (.slice none 0 0)) w := by
  simp only [Instr.lookup, Sem.run_bind, run_underlying Ybad.underlying41, Result.andThen, MapKept.run_getObj_map hb, key_ptr, hf, Sem.run_pure]
  cases q with
  | none => simp [Ybad.zeroValue40, Result.andThen]
  | some q => simp [Result.andThen]

end Go.Proofs.YbulkavwiDoor
