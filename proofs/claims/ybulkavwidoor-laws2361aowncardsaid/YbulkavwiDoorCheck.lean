/-
  The walk of zzs2361acheck.
-/
import Derived.Test.YbulkavwiDoorPre
import Derived.BigQuiet
namespace Go.Proofs.YbulkavwiDoor
open Go.RowKit
set_option linter.unusedSimpArgs false
set_option linter.unusedVariables false
attribute [local go_sem ↓] Go.wp_at_zero Go.wp_at_succ

theorem beq_yes (s : ByteArray) : (s == s) = true := (MapKept.bytes_beq s s).2 rfl
theorem beq_no {s t : ByteArray} (h : s ≠ t) : (s == t) = false := by
  cases hh : (s == t) with
  | false => rfl
  | true => exact absurd ((MapKept.bytes_beq s t).1 hh) h

/-- The cells that the check reads. -/
def Reads (w : World) (gs gt gk n : Nat) (X : Nat → Nat) (κ : Nat → ByteArray) : Prop := ∀ j, j < n → w.cell? ⟨gs, j, none⟩ = some (encP (X j)) ∧ w.cell? ⟨gt, j, none⟩ = some (.string (κ (X j))) ∧ w.cell? ⟨gk, j, none⟩ = some (.bool true)
theorem Reads.grown {w W : World} {gs gt gk n : Nat} {X : Nat → Nat} {κ : Nat → ByteArray} (h : Reads w gs gt gk n X κ) (hb : Below w.heap.size w W) : Reads W gs gt gk n X κ := fun j hj => by
  obtain ⟨h1, h2, h3⟩ := h j hj
  exact ⟨(hb.cell (p := ⟨gs, j, none⟩) (cell_lt h1)).trans h1, (hb.cell (p := ⟨gt, j, none⟩) (cell_lt h2)).trans h2, (hb.cell (p := ⟨gk, j, none⟩) (cell_lt h3)).trans h3⟩

set_option maxRecDepth 100000 in
set_option maxHeartbeats 4000000 in
theorem check_any (bm B gs gt gk n : Nat) (X : Nat → Nat) (κ : Nat → ByteArray) (w : World) (hn : n ≤ 1024) (hG : Grp w bm B κ (pr X n)) (hR : Reads w gs gt gk n X κ) :
    Calls Ybad.prog 8 #[.map (some bm), .slice (some ⟨gs, 0, none⟩) n n, .slice (some ⟨gt, 0, none⟩) n n, .slice (some ⟨gk, 0, none⟩) n n] w fun e w' => e = .returned (.bool true) ∧ Below w.heap.size w w' := by
  obtain ⟨es, cl, gm, hes, hat⟩ := hG.at
  have HR : Hid (Reads w gs gt gk n X κ) := hR
  have HA : Hid (∀ k, k < n → ∃ g c, (∀ V : World, V.heap[bm]? = some (.map es cl) → (Instr.lookup 49 (.map (some bm)) (.string (κ (X k))) true).run Ybad.prog V = .ok (.tuple #[.slice (some ⟨g, 0, none⟩) (fi X κ (κ (X k)) n).length c, .bool true]) V) ∧
      ∀ m, m < n → κ (X m) = κ (X k) → w.cell? ⟨g, (fi X κ (κ (X k)) m).length, none⟩ = some (encP (X m))) := hat
  have HM : Hid (w.heap[bm]? = some (.map es cl)) := gm
  have LM := (Array.getElem?_eq_some_iff.1 gm).1
  clear hG hR hat gm
  go_enter Ybad.func8, Ybad.ntmps8
  go_wp2_with fail
  go_loopw [9, 10] (fun d i wr => ∃ k : Nat, k ≤ n ∧ i = .int .i64 k ∧ d = .int .i64 (nk X κ k) ∧ Below w.heap.size w wr) (fun d i _ => n - (intOf i).toNat)
  case atStart => exact ⟨0, by omega, rfl, by simp [nk, pr, groups], Below.refl _ _⟩
  case round =>
    obtain ⟨k, hk, rfl, rfl, hb⟩ := hrel
    have HB : Hid (Below w.heap.size w wr) := hb
    by_cases hlt : k < n
    · obtain ⟨r1, r2, r3⟩ := HR.out.grown hb k hlt
      have k2 : decide ((k : Int) < (n : Int)) = true := by simp; omega
      have k3 : (0 : Int) ≤ (k : Int) := by omega
      have k4 : (k : Int) < (n : Int) := by omega
      have nkl := nk_le X κ k
      clear hb
      go_wp2_with fail
      go_loopw [11, 12] (fun fst j wr => ∃ m : Nat, m ≤ k ∧ j = .int .i64 m ∧ fst = .bool true ∧ (∀ m', m' < m → κ (X m') ≠ κ (X k)) ∧ Below w.heap.size w wr) (fun fst j _ => k - (intOf j).toNat)
      case atStart => exact ⟨0, by omega, rfl, rfl, (fun m' h => by omega), HB.out⟩
      case round =>
        obtain ⟨m, hm, rfl, rfl, hne, hb⟩ := hrel
        clear HB r1 r2 r3
        have HB : Hid (Below w.heap.size w wr) := hb
        have HN : Hid (∀ m', m' < m → κ (X m') ≠ κ (X k)) := hne
        obtain ⟨r1, r2, r3⟩ := HR.out.grown hb k hlt
        clear hb hne
        by_cases hmk : m < k
        · obtain ⟨-, p2, p3⟩ := HR.out.grown HB.out m (by omega)
          have m2 : decide ((m : Int) < (k : Int)) = true := by simp; omega
          have m3 : (0 : Int) ≤ (m : Int) := by omega
          have m4 : (m : Int) < (n : Int) := by omega
          by_cases heq : κ (X m) = κ (X k)
          · have hold := nk_old X κ k m hmk heq
            rw [heq] at p2
            generalize κ (X k) = t at *
            go_wp2_with fail
            go_quiet (fail)
            go_wp2_with fail
            go_roundw
            case rel => exact ⟨k + 1, by omega, by go_num, by rw [hold], ⟨HB.out.os, HB.out.tape, HB.out.output, HB.out.size, HB.out.block⟩⟩
            case measure => simp [intOf]; omega
          · have e1 : ((κ (X m)).toList == (κ (X k)).toList) = false := by rw [← beq_toListBytes]; exact beq_no heq
            have HE : Hid (∀ m', m' < m + 1 → κ (X m') ≠ κ (X k)) := fun m' h' => by
              by_cases e : m' = m
              · rw [e]; exact heq
              · exact HN.out m' (by omega)
            clear heq HN
            generalize κ (X k) = t at *
            generalize κ (X m) = t' at *
            go_wp2_with fail
            go_quiet (fail)
            go_wp2_with fail
            go_roundw
            case rel => exact ⟨m + 1, by omega, by go_num, rfl, HE.out, ⟨HB.out.os, HB.out.tape, HB.out.output, HB.out.size, HB.out.block⟩⟩
            case measure => simp [intOf]; omega
        · obtain rfl : k = m := by omega
          have m2 : decide ((k : Int) < (k : Int)) = false := by simp
          have hnew := nk_new X κ k HN.out
          obtain ⟨g, gc, hlook, hrow⟩ := HA.out k hlt
          have gmr := (HB.out.block bm LM).trans HM.out
          have qL := hlook wr gmr
          have HRow : Hid (∀ m, m < n → κ (X m) = κ (X k) → w.cell? ⟨g, (fi X κ (κ (X k)) m).length, none⟩ = some (encP (X m))) := hrow
          have fl := fi_le X κ (κ (X k)) n
          have HNew : Hid (nk X κ (k + 1) = nk X κ k + 1) := hnew
          clear hrow hlook gmr HN hnew
          go_wp2_with fail
          go_loopw [15, 16] (fun pos j wr => ∃ m : Nat, m ≤ n ∧ j = .int .i64 m ∧ pos = .int .i64 (fi X κ (κ (X k)) m).length ∧ Below w.heap.size w wr) (fun pos j _ => n - (intOf j).toNat)
          case atStart => exact ⟨0, by omega, rfl, by simp [fi, pr], HB.out⟩
          case round =>
            obtain ⟨m, hm, rfl, rfl, hb⟩ := hrel
            clear HB r1 r2 r3 m2
            have HB : Hid (Below w.heap.size w wr) := hb
            obtain ⟨r1, r2, r3⟩ := HR.out.grown hb k hlt
            clear hb
            by_cases hmn : m < n
            · obtain ⟨p1, p2, p3⟩ := HR.out.grown HB.out m hmn
              have m2 : decide ((m : Int) < (n : Int)) = true := by simp; omega
              have m3 : (0 : Int) ≤ (m : Int) := by omega
              have m4 : (m : Int) < (n : Int) := by omega
              by_cases heq : κ (X m) = κ (X k)
              · obtain ⟨l1, -⟩ := fi_get X κ (κ (X k)) m n hmn heq
                have hc0 := HRow.out m hmn heq
                have hc := (HB.out.cell (p := ⟨g, (fi X κ (κ (X k)) m).length, none⟩) (cell_lt hc0)).trans hc0
                have hf : (fi X κ (κ (X k)) (m + 1)).length = (fi X κ (κ (X k)) m).length + 1 := by rw [fi_yes X κ _ m heq]; simp
                have HF : Hid ((fi X κ (κ (X k)) (m + 1)).length = (fi X κ (κ (X k)) m).length + 1) := hf
                rw [heq] at p2
                unfold encP at p1 hc
                clear hc0 heq qL hf
                have q := fun V : World => neq_same V (X m)
                generalize X m = y at *
                generalize hP : (fi X κ (κ (X k)) m).length = P at *
                generalize hL : (fi X κ (κ (X k)) n).length = L at *
                have g1 : decide ((L : Int) ≤ (P : Int)) = false := by simp; omega
                have g2 : (0 : Int) ≤ (P : Int) := by omega
                have g3 : (P : Int) < (L : Int) := by omega
                have HK : Hid (κ (X k) = κ (X k)) := rfl
                generalize hT : κ (X k) = t at *
                go_wp2_with fail
                go_quiet (fail)
                go_wp2_with fail
                go_quiet (fail)
                go_wp2_with fail
                go_roundw
                case rel => exact ⟨m + 1, by omega, by go_num, by rw [HF.out]; go_num, ⟨HB.out.os, HB.out.tape, HB.out.output, HB.out.size, HB.out.block⟩⟩
                case measure => simp [intOf]; omega
              · have e1 : ((κ (X m)).toList == (κ (X k)).toList) = false := by rw [← beq_toListBytes]; exact beq_no heq
                have HF : Hid ((fi X κ (κ (X k)) (m + 1)).length = (fi X κ (κ (X k)) m).length) := by rw [fi_no X κ _ m heq]; rfl
                clear heq qL
                generalize hP : (fi X κ (κ (X k)) m).length = P at *
                generalize hL : (fi X κ (κ (X k)) n).length = L at *
                generalize hT : κ (X k) = t at *
                generalize κ (X m) = t' at *
                go_wp2_with fail
                go_quiet (fail)
                go_wp2_with fail
                go_roundw
                case rel => exact ⟨m + 1, by omega, by go_num, by rw [HF.out], ⟨HB.out.os, HB.out.tape, HB.out.output, HB.out.size, HB.out.block⟩⟩
                case measure => simp [intOf]; omega
            · obtain rfl : n = m := by omega
              have m2 : decide ((n : Int) < (n : Int)) = false := by simp
              clear qL
              generalize hL : (fi X κ (κ (X k)) n).length = L at *
              go_wp2_with fail
              go_roundw
              case rel => exact ⟨k + 1, by omega, by go_num, by rw [HNew.out]; go_num, HB.out⟩
              case measure => simp [intOf]; omega
    · obtain rfl : n = k := by omega
      have k2 : decide ((n : Int) < (n : Int)) = false := by simp
      have gmr := (hb.block bm LM).trans HM.out
      have ql := len49 gmr
      rw [hes] at ql
      clear gmr hb
      generalize nk X κ n = d at *
      go_wp2_with fail
      go_ret
      exact ⟨rfl, HB.out⟩

end Go.Proofs.YbulkavwiDoor
