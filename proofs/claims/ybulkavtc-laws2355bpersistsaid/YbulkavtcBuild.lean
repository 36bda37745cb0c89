/-
  The walk of zzs2355bbuild.
-/
import Derived.Test.YbulkavtcIns
import Derived.Test.YbulkavtcKeys
import Derived.Test.YbulkavtcSpan
namespace Go.Proofs.Ybulkavtc
open Go.RowKit

theorem AV.other {w w' : World} {B h pb : Nat} {p : Option Addr} {ks : List Nat} (t : AV w B h p ks) (hpb : pb < B) (hw : ∀ b o, b ≠ pb → w'.cell? ⟨b, o, none⟩ = w.cell? ⟨b, o, none⟩) : AV w' B h p ks := by
  obtain ⟨f, t⟩ := t
  exact ⟨f, t.world (fun b o hb _ => hw b o (by omega)) (Nat.le_refl _)⟩

/-- The array of flags, at block pb. -/
def Flags (w : World) (pb : Nat) (pr : Nat → Bool) : Prop := ∀ j, j < 85 → w.cell? ⟨pb, j, none⟩ = some (.bool (pr j)) ∧ w.frozen? ⟨pb, j, none⟩ = false

/-- What the loop keeps. -/
def Rel (w : World) (pb : Nat) (p : Option Addr) (pr : Nat → Bool) (wr : World) : Prop :=
  ∃ h, AV wr (pb + 1) h p (keys pr) ∧ Flags wr pb pr ∧ Below pb w wr ∧ pb < wr.heap.size

theorem Rel.lt {w wr : World} {pb : Nat} {p : Option Addr} {pr : Nat → Bool} (r : Rel w pb p pr wr) : pb < wr.heap.size := by obtain ⟨h, -, -, -, hz⟩ := r; exact hz

theorem Rel.flag {w wr : World} {pb : Nat} {p : Option Addr} {pr : Nat → Bool} (r : Rel w pb p pr wr) (j : Nat) (hj : j < 85) : wr.cell? ⟨pb, j, none⟩ = some (.bool (pr j)) ∧ wr.frozen? ⟨pb, j, none⟩ = false := by
  obtain ⟨h, -, hf, -⟩ := r
  exact hf j hj

theorem flags_set {w : World} {pb i : Nat} {pr : Nat → Bool} (hf : Flags w pb pr) (hi : i < 85) : Flags (w.setCell ⟨pb, i, none⟩ (.bool true)) pb (with1 pr i) := by
  intro j hj
  obtain ⟨h1, h2⟩ := hf j hj
  obtain ⟨h3, h4⟩ := hf i hi
  constructor
  · by_cases e : j = i
    · subst e
      rw [World.cell?_setCell_same _ _ _ h3]
      simp [with1]
    · rw [World.cell?_setCell_other _ _ _ _ (fun hh => e (Addr.mk.inj hh).2.1.symm), h1]
      simp [with1, e]
  · rw [World.frozen?_setCell]; exact h2


/-- The round that puts a key in: what is handed to span and to insert, and what is kept behind them. -/
theorem Rel.start {w wr : World} {pb i : Nat} {p : Option Addr} {pr : Nat → Bool} (r : Rel w pb p pr wr) (hi : i < 85) :
    ∃ h, AV (wr.setCell ⟨pb, i, none⟩ (.bool true)) (pb + 1) h p (keys pr) ∧ Flags (wr.setCell ⟨pb, i, none⟩ (.bool true)) pb (with1 pr i) ∧ Below pb w (wr.setCell ⟨pb, i, none⟩ (.bool true)) ∧ pb < (wr.setCell ⟨pb, i, none⟩ (.bool true)).heap.size := by
  obtain ⟨h, ha, hf, hb, hz⟩ := r
  refine ⟨h, ha.other (Nat.lt_succ_self _) (fun b o hne => ?_), flags_set hf hi, hb.setCell (Nat.le_refl _) _, by simpa [World.setCell] using hz⟩
  exact World.cell?_setCell_other _ _ _ _ (fun hh => hne (Addr.mk.inj hh).1.symm)

theorem Flags.below {w w' : World} {pb : Nat} {pr : Nat → Bool} (hf : Flags w pb pr) (hz : pb < w.heap.size) (hb : Below w.heap.size w w') : Flags w' pb pr := fun j hj => by
  obtain ⟨h1, h2⟩ := hf j hj
  exact ⟨(hb.cell (p := ⟨pb, j, none⟩) hz).trans h1, (hb.frozen (p := ⟨pb, j, none⟩) hz).trans h2⟩

theorem Rel.done {w W w1 w2 : World} {pb i : Nat} {pr : Nat → Bool} {p' : Option Addr} {h' : Nat} (hi : i < 85) (hp : pr i = false)
    (hf : Flags W pb (with1 pr i)) (hb : Below pb w W) (hz : pb < W.heap.size) (b1 : Below W.heap.size W w1) (ha : AV w2 (pb + 1) h' p' (insl i (keys pr))) (b2 : Below w1.heap.size w1 w2) : Rel w pb p' (with1 pr i) w2 := by
  have hz1 : pb < w1.heap.size := Nat.lt_of_lt_of_le hz b1.size
  refine ⟨h', by rw [keys_with pr i hi hp]; exact ha, (hf.below hz b1).below hz1 b2, (hb.trans (b1.mono (Nat.le_of_lt hz))).trans (b2.mono (Nat.le_of_lt hz1)), Nat.lt_of_lt_of_le hz1 b2.size⟩

set_option maxRecDepth 100000 in
set_option maxHeartbeats 1000000 in
theorem build_some (b off len cap pb : Nat) (zs : Nat → Nat) (w : World) (hl : len ≤ 1024) (hz : ∀ k, zs k < 256) (hc : ∀ k, k < len → w.cell? ⟨b, off + k, none⟩ = some (.int .u8 (zs k))) (hb : b < pb)
    (r0 : Rel w pb none (fun _ => false) w) :
    Calls Yba.prog 5 #[.slice (some ⟨b, off, none⟩) len cap, .pointer (some ⟨pb, 0, none⟩)] w fun x w' => ∃ p pr, x = .returned (.pointer p) ∧ Rel w pb p pr w' := by
  have HC : Hid (∀ k, k < len → w.cell? ⟨b, off + k, none⟩ = some (.int .u8 (zs k))) := hc
  clear hc
  go_enter Yba.func5, Yba.ntmps5
  go_wp2_with fail
  go_loopw [5, 11] (fun t i wr => ∃ (k : Nat) (p : Option Addr) (pr : Nat → Bool), k ≤ len ∧ i = .int .i64 k ∧ t = .pointer p ∧ Rel w pb p pr wr) (fun _ i _ => len - (intOf i).toNat)
  case atStart => exact ⟨0, none, _, Nat.zero_le _, rfl, rfl, r0⟩
  case round =>
    obtain ⟨k, p, pr, hk, rfl, rfl, hr⟩ := hrel
    by_cases hlt : k < len
    · have hcx : wr.cell? ⟨b, off + k, none⟩ = some (.int .u8 (zs k)) := by
        obtain ⟨h, -, -, hbel, -⟩ := hr
        exact (hbel.cell (p := ⟨b, off + k, none⟩) hb).trans (HC.out k hlt)
      have hzk := hz k
      obtain ⟨i, hi⟩ : ∃ i, zs k % 85 = i := ⟨_, rfl⟩
      have hi85 : i < 85 := by omega
      have hI : (zs k : Int) % 85 = (i : Int) := by omega
      clear hi
      obtain ⟨hfc, hff⟩ := hr.flag i hi85
      by_cases hp : pr i = true
      · go_wp2_with fail
        go_roundw
        case rel => exact ⟨k + 1, p, pr, by omega, by go_num, rfl, hr⟩
        case measure => simp [intOf]; omega
      · have hp' : pr i = false := by simpa using hp
        clear hp
        rw [hp'] at hfc
        obtain ⟨h, ha, hf, hbel, hsz⟩ := hr.start hi85
        go_wp2_with fail
        refine (span_any i _ hi85).mono ?_
        rintro x w1 ⟨rfl, hb1⟩
        go_wp2_with fail
        refine (insert_any i (pb + 1) h p (keys pr) w1 hi85 (ha.below hb1) (Nat.lt_of_lt_of_le hsz hb1.size) (keys_sorted pr) (keys_lt pr) (keys_not pr i hp') (by have := keys_length pr; omega)).mono ?_
        rintro x w2 ⟨p', h', rfl, ha2, -, hb2⟩
        have R := Rel.done hi85 hp' hf hbel hsz hb1 ha2 hb2
        clear hf hbel hsz hb1 ha2 hb2 ha hfc hff hcx
        go_wp2_with fail
        go_roundw
        case rel => exact ⟨k + 1, p', _, by omega, by go_num, rfl, R⟩
        case measure => simp [intOf]; omega
    · go_wp2_with fail
      go_ret
      exact ⟨p, pr, rfl, hr⟩

end Go.Proofs.Ybulkavtc
