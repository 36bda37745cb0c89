/-
  The AVL tree in memory: a predicate by fuel, and its laws.
-/
import Derived.Test.YbulkavtcRot
namespace Go.Proofs.Ybulkavtc
open Go.RowKit

def sB (i : Nat) : ByteArray := ⟨#[UInt8.ofNat (3 * i)]⟩
def eB (i : Nat) : ByteArray := ⟨#[UInt8.ofNat (3 * i + 1)]⟩

/-- In w, from block B on: a balanced tree of height h at p, its keys in order ks; f: fuel. -/
def Av (w : World) (B : Nat) : Nat → Nat → Option Addr → List Nat → Prop
  | 0, h, p, ks => h = 0 ∧ p = none ∧ ks = []
  | f + 1, h, p, ks => (h = 0 ∧ p = none ∧ ks = []) ∨ ∃ b i l r hl hr lks rks, p = some ⟨b, 0, none⟩ ∧ B ≤ b ∧ IsNode w b (sB i) (eB i) l r h ks.length ∧
      Av w B f hl l lks ∧ Av w B f hr r rks ∧ ks = lks ++ i :: rks ∧ h = 1 + max hl hr ∧ hl ≤ hr + 1 ∧ hr ≤ hl + 1

def AV (w : World) (B : Nat) (h : Nat) (p : Option Addr) (ks : List Nat) : Prop := ∃ f, Av w B f h p ks

theorem Av.succ {w : World} {B : Nat} : ∀ {f h : Nat} {p : Option Addr} {ks : List Nat}, Av w B f h p ks → Av w B (f + 1) h p ks
  | 0, _, _, _, t => .inl t
  | f + 1, _, _, _, t => by
    rcases t with t | ⟨b, i, l, r, hl, hr, lks, rks, e1, e2, e3, t1, t2, e4⟩
    · exact .inl t
    · exact .inr ⟨b, i, l, r, hl, hr, lks, rks, e1, e2, e3, Av.succ t1, Av.succ t2, e4⟩

theorem Av.add {w : World} {B f h : Nat} {p : Option Addr} {ks : List Nat} (t : Av w B f h p ks) (k : Nat) : Av w B (f + k) h p ks := by
  induction k with
  | zero => exact t
  | succ k ih => exact ih.succ

theorem Av.world {w w' : World} {B B' : Nat} (hw : ∀ b o, B ≤ b → b < w.heap.size → w'.cell? ⟨b, o, none⟩ = w.cell? ⟨b, o, none⟩) (hB : B' ≤ B) :
    ∀ {f h : Nat} {p : Option Addr} {ks : List Nat}, Av w B f h p ks → Av w' B' f h p ks
  | 0, _, _, _, t => t
  | f + 1, _, _, _, t => by
    rcases t with t | ⟨b, i, l, r, hl, hr, lks, rks, e1, e2, e3, t1, t2, e4⟩
    · exact .inl t
    · refine .inr ⟨b, i, l, r, hl, hr, lks, rks, e1, Nat.le_trans hB e2, ?_, Av.world hw hB t1, Av.world hw hB t2, e4⟩
      have hk := cell_lt e3.1
      unfold IsNode at *
      simp only [hw b _ e2 hk]
      exact e3

theorem AV.nil (w : World) (B : Nat) : AV w B 0 none [] := ⟨0, rfl, rfl, rfl⟩

theorem AV.mk {w : World} {B b i h n hl hr : Nat} {l r : Option Addr} {lks rks : List Nat} (t : IsNode w b (sB i) (eB i) l r h n) (hb : B ≤ b)
    (t1 : AV w B hl l lks) (t2 : AV w B hr r rks) (eh : h = 1 + max hl hr) (en : n = (lks ++ i :: rks).length) (b1 : hl ≤ hr + 1) (b2 : hr ≤ hl + 1) : AV w B h (some ⟨b, 0, none⟩) (lks ++ i :: rks) := by
  obtain ⟨f1, t1⟩ := t1
  obtain ⟨f2, t2⟩ := t2
  refine ⟨f1 + f2 + 1, .inr ⟨b, i, l, r, hl, hr, lks, rks, rfl, hb, en ▸ t, t1.add f2, ?_, rfl, eh, b1, b2⟩⟩
  rw [Nat.add_comm]
  exact t2.add f1

theorem AV.inv {w : World} {B h : Nat} {p : Option Addr} {ks : List Nat} (t : AV w B h p ks) : (h = 0 ∧ p = none ∧ ks = []) ∨ ∃ b i l r hl hr lks rks, p = some ⟨b, 0, none⟩ ∧ B ≤ b ∧ IsNode w b (sB i) (eB i) l r h ks.length ∧
      AV w B hl l lks ∧ AV w B hr r rks ∧ ks = lks ++ i :: rks ∧ h = 1 + max hl hr ∧ hl ≤ hr + 1 ∧ hr ≤ hl + 1 := by
  obtain ⟨f, t⟩ := t
  rcases f with - | f
  · exact .inl t
  · rcases t with t | ⟨b, i, l, r, hl, hr, lks, rks, e1, e2, e3, t1, t2, e4⟩
    · exact .inl t
    · exact .inr ⟨b, i, l, r, hl, hr, lks, rks, e1, e2, e3, ⟨f, t1⟩, ⟨f, t2⟩, e4⟩

theorem AV.below {w w' : World} {B h : Nat} {p : Option Addr} {ks : List Nat} (t : AV w B h p ks) (b : Below w.heap.size w w') : AV w' B h p ks := by
  obtain ⟨f, t⟩ := t
  exact ⟨f, t.world (fun k o _ hk => b.cell (p := ⟨k, o, none⟩) hk) (Nat.le_refl _)⟩

theorem AV.lower {w : World} {B B' h : Nat} {p : Option Addr} {ks : List Nat} (t : AV w B h p ks) (hB : B' ≤ B) : AV w B' h p ks := by
  obtain ⟨f, t⟩ := t
  exact ⟨f, t.world (fun _ _ _ _ => rfl) hB⟩

theorem AV.top {w : World} {B h : Nat} {p : Option Addr} {ks : List Nat} (t : AV w B h p ks) : Top w p h ks.length := by
  rcases t.inv with ⟨rfl, rfl, rfl⟩ | ⟨b, i, l, r, hl, hr, lks, rks, rfl, -, e3, -⟩
  · exact .inl ⟨rfl, rfl, rfl⟩
  · exact e3.top

theorem Av.size {w : World} {B : Nat} : ∀ {f h : Nat} {p : Option Addr} {ks : List Nat}, Av w B f h p ks → h ≤ ks.length ∧ 2 * h ≤ ks.length + 2 ∧ (h = 0 → ks.length = 0)
  | 0, _, _, _, t => by obtain ⟨rfl, rfl, rfl⟩ := t; simp
  | f + 1, _, _, _, t => by
    rcases t with ⟨rfl, rfl, rfl⟩ | ⟨b, i, l, r, hl, hr, lks, rks, e1, e2, e3, t1, t2, rfl, rfl, b1, b2⟩
    · simp
    · have h1 := Av.size t1
      have h2 := Av.size t2
      simp only [List.length_append, List.length_cons]
      omega

theorem AV.size {w : World} {B h : Nat} {p : Option Addr} {ks : List Nat} (t : AV w B h p ks) : h ≤ ks.length ∧ 2 * h ≤ ks.length + 2 := by
  obtain ⟨f, t⟩ := t
  exact ⟨t.size.1, t.size.2.1⟩

end Go.Proofs.Ybulkavtc
