/-
  Plain arithmetic, no program in it: the ones of a 64-bit number, counted by the library's folding; the lowest one; a number without its lowest one.
-/
import Derived.Lib.TrailingZeros
namespace Go.Proofs.YbulkavueDoor

/-- The places of the ones below n. -/
def onesTo (x n : Nat) : List Nat := (List.range n).filter (fun i => x.testBit i)
/-- How many ones lie below n. -/
def cntTo (x n : Nat) : Nat := (onesTo x n).length

def b8 (b : Nat) : Nat := cntTo b 8
def s1 (b : Nat) : Nat := (b / 2 &&& 85) + (b &&& 85)
def s2 (b : Nat) : Nat := (b / 4 &&& 51) + (b &&& 51)
def s3 (b : Nat) : Nat := (b / 16 + b) &&& 15

theorem byte_facts : ∀ b : Fin 256, s1 b.val < 256 ∧ s2 (s1 b.val) < 256 ∧ s2 (s1 b.val) / 16 ≤ 4 ∧ s2 (s1 b.val) % 16 ≤ 4 ∧ s3 (s2 (s1 b.val)) = b8 b.val ∧ b8 b.val ≤ 8 := by decide +kernel
theorem byte1 : ∀ (c : Fin 2) (b : Fin 256), (c.val * 128 + b.val / 2) &&& 85 = b.val / 2 &&& 85 := by decide +kernel
theorem byte2 : ∀ (c : Fin 4) (b : Fin 256), (c.val * 64 + b.val / 4) &&& 51 = b.val / 4 &&& 51 := by decide +kernel
theorem byte3 : ∀ (c : Fin 5) (b : Fin 256), b.val / 16 ≤ 4 → (c.val * 16 + b.val / 16 + b.val) &&& 15 = (b.val / 16 + b.val) &&& 15 := by decide +kernel

theorem and_cat (a b c d : Nat) (hb : b < 256) (hd : d < 256) : (a * 256 + b) &&& (c * 256 + d) = (a &&& c) * 256 + (b &&& d) := by
  have hbd : b &&& d < 256 := Nat.lt_of_le_of_lt Nat.and_le_left hb
  apply Nat.eq_of_testBit_eq
  intro i
  rw [Nat.testBit_and, Nat.mul_comm a, Nat.mul_comm c, Nat.mul_comm (a &&& c)]
  rw [show 256 = 2 ^ 8 from rfl] at *
  rw [Nat.testBit_two_pow_mul_add _ hb, Nat.testBit_two_pow_mul_add _ hd, Nat.testBit_two_pow_mul_add _ hbd]
  split <;> simp [Nat.testBit_and]

def P1 (m x : Nat) : Nat := (x / 2 &&& m) + (x &&& m)
def P2 (m x : Nat) : Nat := (x / 4 &&& m) + (x &&& m)
def P3 (m x : Nat) : Nat := (x / 16 + x) &&& m

theorem P1_cat (m a b : Nat) (hb : b < 256) : P1 (m * 256 + 85) (a * 256 + b) = P1 m a * 256 + s1 b := by
  unfold P1 s1
  have e : (a * 256 + b) / 2 = (a / 2) * 256 + (a % 2 * 128 + b / 2) := by omega
  rw [e, and_cat _ _ _ _ (by omega) (by omega), and_cat _ _ _ _ hb (by omega)]
  have := byte1 ⟨a % 2, by omega⟩ ⟨b, hb⟩
  simp only at this
  rw [this]
  omega

theorem P2_cat (m a b : Nat) (hb : b < 256) : P2 (m * 256 + 51) (a * 256 + b) = P2 m a * 256 + s2 b := by
  unfold P2 s2
  have e : (a * 256 + b) / 4 = (a / 4) * 256 + (a % 4 * 64 + b / 4) := by omega
  rw [e, and_cat _ _ _ _ (by omega) (by omega), and_cat _ _ _ _ hb (by omega)]
  have := byte2 ⟨a % 4, by omega⟩ ⟨b, hb⟩
  simp only at this
  rw [this]
  omega

theorem P3_cat (m a b : Nat) (hb : b < 256) (ha : a % 16 ≤ 4) (hb4 : b / 16 ≤ 4) : P3 (m * 256 + 15) (a * 256 + b) = P3 m a * 256 + s3 b := by
  unfold P3 s3
  have e : (a * 256 + b) / 16 + (a * 256 + b) = (a / 16 + a) * 256 + (a % 16 * 16 + b / 16 + b) := by omega
  rw [e, and_cat _ _ _ _ (by omega) (by omega)]
  have := byte3 ⟨a % 16, by omega⟩ ⟨b, hb⟩ hb4
  simp only at this
  rw [this]

def mk (d : Nat) : Nat → Nat
  | 0 => 0
  | k + 1 => mk d k * 256 + d

def F2 (k x : Nat) : Nat := P2 (mk 51 k) (P1 (mk 85 k) x)
def F3 (k x : Nat) : Nat := P3 (mk 15 k) (F2 k x)

theorem F2_cat (k a b : Nat) (hb : b < 256) : F2 (k + 1) (a * 256 + b) = F2 k a * 256 + s2 (s1 b) := by
  unfold F2
  show P2 (mk 51 k * 256 + 51) (P1 (mk 85 k * 256 + 85) (a * 256 + b)) = _
  rw [P1_cat _ _ _ hb, P2_cat _ _ _ (byte_facts ⟨b, hb⟩).1]

theorem F2_low : ∀ (k x : Nat), F2 k x % 16 ≤ 4
  | 0, x => by simp [F2, P2, P1, mk]
  | k + 1, x => by
    have e : x = x / 256 * 256 + x % 256 := by omega
    have hb : x % 256 < 256 := by omega
    rw [e, F2_cat k _ _ hb]
    have := (byte_facts ⟨x % 256, hb⟩).2.2.2.1
    simp only at this
    omega

theorem F3_step (k x : Nat) : F3 (k + 1) x = F3 k (x / 256) * 256 + b8 (x % 256) := by
  have e : x = x / 256 * 256 + x % 256 := by omega
  have hb : x % 256 < 256 := by omega
  obtain ⟨h1, h2, h3, h4, h5, h6⟩ := byte_facts ⟨x % 256, hb⟩
  have g : F3 (k + 1) (x / 256 * 256 + x % 256) = F3 k (x / 256) * 256 + b8 (x % 256) := by
    unfold F3
    rw [F2_cat k _ _ hb]
    show P3 (mk 15 k * 256 + 15) _ = _
    rw [P3_cat _ _ _ h2 (F2_low k _) h3, h5]
  rw [← e] at g
  exact g

theorem b8_le (b : Nat) (hb : b < 256) : b8 b ≤ 8 := (byte_facts ⟨b, hb⟩).2.2.2.2.2

theorem cnt_step (k x : Nat) : cntTo x (8 * (k + 1)) = b8 (x % 256) + cntTo (x / 256) (8 * k) := by
  unfold b8 cntTo onesTo
  have e : List.range (8 * (k + 1)) = List.range 8 ++ (List.range (8 * k)).map (8 + ·) := by
    rw [show 8 * (k + 1) = 8 + 8 * k by omega, List.range_add]
  rw [e, List.filter_append, List.length_append, List.filter_map, List.length_map]
  congr 2
  · apply List.filter_congr
    intro i hi
    have hi8 : i < 8 := by simpa using hi
    rw [show 256 = 2 ^ 8 from rfl, Nat.testBit_mod_two_pow]
    simp [hi8]
  · apply List.filter_congr
    intro i _
    show x.testBit (8 + i) = _
    rw [show 256 = 2 ^ 8 from rfl, Nat.testBit_div_two_pow, Nat.add_comm]

theorem cnt_zero (x : Nat) : cntTo x 0 = 0 := rfl

/-- The library's folding, its masks written out. -/
def fold64 (x : Nat) : Nat :=
  let a := (x / 2 &&& 6148914691236517205) + (x &&& 6148914691236517205)
  let b := (a / 4 &&& 3689348814741910323) + (a &&& 3689348814741910323)
  (b / 16 + b) &&& 1085102592571150095

theorem fold64_eq (x : Nat) : fold64 x = F3 8 x := rfl

theorem div_of {y A B n : Nat} (h : y = A * n + B) (hB : B < n) : y / n = A := by
  subst h
  rw [Nat.add_comm, Nat.add_mul_div_right _ _ (by omega), Nat.div_eq_of_lt hB, Nat.zero_add]

theorem fold_sum (p0 p1 p2 p3 p4 p5 p6 p7 y : Nat) (h0 : p0 ≤ 8) (h1 : p1 ≤ 8) (h2 : p2 ≤ 8) (h3 : p3 ≤ 8) (h4 : p4 ≤ 8) (h5 : p5 ≤ 8) (h6 : p6 ≤ 8) (h7 : p7 ≤ 8)
    (hy : y = ((((((p7 * 256 + p6) * 256 + p5) * 256 + p4) * 256 + p3) * 256 + p2) * 256 + p1) * 256 + p0) :
    y < 18446744073709551616 ∧ y + y / 256 < 18446744073709551616 ∧ (y + y / 256) + (y + y / 256) / 65536 < 18446744073709551616 ∧
    ((y + y / 256) + (y + y / 256) / 65536) + ((y + y / 256) + (y + y / 256) / 65536) / 4294967296 < 18446744073709551616 ∧
    (((y + y / 256) + (y + y / 256) / 65536) + ((y + y / 256) + (y + y / 256) / 65536) / 4294967296) % 128 = p0 + p1 + p2 + p3 + p4 + p5 + p6 + p7 := by
  have q1 : y / 256 = (((((p7 * 256 + p6) * 256 + p5) * 256 + p4) * 256 + p3) * 256 + p2) * 256 + p1 := div_of hy (by omega)
  rw [q1]
  generalize e1 : y + ((((((p7 * 256 + p6) * 256 + p5) * 256 + p4) * 256 + p3) * 256 + p2) * 256 + p1) = y1
  have f1 : y1 = (p7 * 1099511627776 + (p6 + p7) * 4294967296 + (p5 + p6) * 16777216 + (p4 + p5) * 65536 + (p3 + p4) * 256 + (p2 + p3)) * 65536 + ((p1 + p2) * 256 + (p0 + p1)) := by omega
  have q2 : y1 / 65536 = p7 * 1099511627776 + (p6 + p7) * 4294967296 + (p5 + p6) * 16777216 + (p4 + p5) * 65536 + (p3 + p4) * 256 + (p2 + p3) := div_of f1 (by omega)
  rw [q2]
  generalize e2 : y1 + (p7 * 1099511627776 + (p6 + p7) * 4294967296 + (p5 + p6) * 16777216 + (p4 + p5) * 65536 + (p3 + p4) * 256 + (p2 + p3)) = y2
  have f2 : y2 = (p7 * 16777216 + (p6 + p7) * 65536 + (p5 + p6 + p7) * 256 + (p4 + p5 + p6 + p7)) * 4294967296 + ((p3 + p4 + p5 + p6) * 16777216 + (p2 + p3 + p4 + p5) * 65536 + (p1 + p2 + p3 + p4) * 256 + (p0 + p1 + p2 + p3)) := by omega
  have q3 : y2 / 4294967296 = p7 * 16777216 + (p6 + p7) * 65536 + (p5 + p6 + p7) * 256 + (p4 + p5 + p6 + p7) := div_of f2 (by omega)
  rw [q3]
  clear q1 q2 q3
  refine ⟨by clear e1 e2 f1 f2; omega, by clear e1 e2 f2 hy; omega, by clear e1 e2 f1 hy; omega, by clear e1 e2 f1 hy; omega, ?_⟩
  have f3 : y2 + (p7 * 16777216 + (p6 + p7) * 65536 + (p5 + p6 + p7) * 256 + (p4 + p5 + p6 + p7)) = 128 * ((p7 * 16777216 + (p6 + p7) * 65536 + (p5 + p6 + p7) * 256 + (p4 + p5 + p6 + p7)) * 33554432 + (p3 + p4 + p5 + p6) * 131072 + (p2 + p3 + p4 + p5) * 512 + (p1 + p2 + p3 + p4) * 2 + p7 * 131072 + (p6 + p7) * 512 + (p5 + p6 + p7) * 2) + (p0 + p1 + p2 + p3 + p4 + p5 + p6 + p7) := by clear e1 e2 f1 hy; omega
  rw [f3, Nat.mul_add_mod]
  exact Nat.mod_eq_of_lt (by clear e1 e2 f1 f2 f3 hy; omega)

theorem fold64_ones (x : Nat) :
    fold64 x < 18446744073709551616 ∧ fold64 x + fold64 x / 256 < 18446744073709551616 ∧ (fold64 x + fold64 x / 256) + (fold64 x + fold64 x / 256) / 65536 < 18446744073709551616 ∧
    ((fold64 x + fold64 x / 256) + (fold64 x + fold64 x / 256) / 65536) + ((fold64 x + fold64 x / 256) + (fold64 x + fold64 x / 256) / 65536) / 4294967296 < 18446744073709551616 ∧
    (((fold64 x + fold64 x / 256) + (fold64 x + fold64 x / 256) / 65536) + ((fold64 x + fold64 x / 256) + (fold64 x + fold64 x / 256) / 65536) / 4294967296) % 128 = cntTo x 64 := by
  have e : fold64 x = ((((((b8 (x / 256 / 256 / 256 / 256 / 256 / 256 / 256 % 256) * 256 + b8 (x / 256 / 256 / 256 / 256 / 256 / 256 % 256)) * 256 + b8 (x / 256 / 256 / 256 / 256 / 256 % 256)) * 256 + b8 (x / 256 / 256 / 256 / 256 % 256)) * 256 + b8 (x / 256 / 256 / 256 % 256)) * 256 + b8 (x / 256 / 256 % 256)) * 256 + b8 (x / 256 % 256)) * 256 + b8 (x % 256) := by
    rw [fold64_eq, F3_step, F3_step, F3_step, F3_step, F3_step, F3_step, F3_step, F3_step]
    have z : ∀ y, F3 0 y = 0 := fun y => by simp [F3, P3, mk]
    rw [z, Nat.zero_mul, Nat.zero_add]
  have c : cntTo x 64 = b8 (x % 256) + b8 (x / 256 % 256) + b8 (x / 256 / 256 % 256) + b8 (x / 256 / 256 / 256 % 256) + b8 (x / 256 / 256 / 256 / 256 % 256) + b8 (x / 256 / 256 / 256 / 256 / 256 % 256) + b8 (x / 256 / 256 / 256 / 256 / 256 / 256 % 256) + b8 (x / 256 / 256 / 256 / 256 / 256 / 256 / 256 % 256) := by
    show cntTo x (8 * (7 + 1)) = _
    rw [cnt_step 7]
    show _ + cntTo _ (8 * (6 + 1)) = _
    rw [cnt_step 6]
    show _ + (_ + cntTo _ (8 * (5 + 1))) = _
    rw [cnt_step 5]
    show _ + (_ + (_ + cntTo _ (8 * (4 + 1)))) = _
    rw [cnt_step 4]
    show _ + (_ + (_ + (_ + cntTo _ (8 * (3 + 1))))) = _
    rw [cnt_step 3]
    show _ + (_ + (_ + (_ + (_ + cntTo _ (8 * (2 + 1)))))) = _
    rw [cnt_step 2]
    show _ + (_ + (_ + (_ + (_ + (_ + cntTo _ (8 * (1 + 1))))))) = _
    rw [cnt_step 1]
    show _ + (_ + (_ + (_ + (_ + (_ + (_ + cntTo _ (8 * (0 + 1)))))))) = _
    rw [cnt_step 0, Nat.mul_zero, cnt_zero]
    omega
  have l : ∀ y, b8 (y % 256) ≤ 8 := fun y => b8_le _ (Nat.mod_lt _ (by decide))
  obtain ⟨r1, r2, r3, r4, r5⟩ := fold_sum _ _ _ _ _ _ _ _ _ (l x) (l (x / 256)) (l (x / 256 / 256)) (l (x / 256 / 256 / 256)) (l (x / 256 / 256 / 256 / 256)) (l (x / 256 / 256 / 256 / 256 / 256)) (l (x / 256 / 256 / 256 / 256 / 256 / 256)) (l (x / 256 / 256 / 256 / 256 / 256 / 256 / 256)) e
  exact ⟨r1, r2, r3, r4, r5.trans c.symm⟩

end Go.Proofs.YbulkavueDoor
