/- Bits of bytes as numbers: plain Lean. -/
namespace Go.Proofs.YthgbfmcicpmepaaDoor.B
/-- The bit at a place. -/
def bitD (D : Nat → Nat) (p : Nat) : Bool := (D (p / 8)).testBit (p % 8)
/-- So many bits from a place on, the lowest first, as a number. -/
def pk (D : Nat → Nat) (p : Nat) : Nat → Nat
  | 0 => 0
  | n + 1 => pk D p n + 2 ^ n * (bitD D (p + n)).toNat
theorem pk_lt (D : Nat → Nat) (p : Nat) : ∀ n, pk D p n < 2 ^ n
  | 0 => by simp [pk]
  | n + 1 => by
    have h := pk_lt D p n
    simp only [pk, Nat.pow_succ]
    cases bitD D (p + n) <;> simp <;> omega
theorem pk_split (D : Nat → Nat) (p m : Nat) : ∀ n, pk D p (m + n) = pk D p m + 2 ^ m * pk D (p + m) n
  | 0 => by simp [pk]
  | n + 1 => by
    have h := pk_split D p m n
    rw [← Nat.add_assoc]
    simp only [pk]
    rw [h, Nat.pow_add, Nat.mul_add, Nat.add_assoc, Nat.add_assoc, Nat.mul_assoc]
theorem pk_testBit (D : Nat → Nat) (p i : Nat) : ∀ n, (pk D p n).testBit i = (decide (i < n) && bitD D (p + i))
  | 0 => by simp [pk]
  | n + 1 => by
    have h := pk_testBit D p i n
    simp only [pk]
    rw [Nat.add_comm, Nat.testBit_two_pow_mul_add _ (pk_lt D p n), h]
    by_cases hi : i < n
    · simp [hi, Nat.lt_succ_of_lt hi]
    · by_cases he : i = n
      · subst he
        simp
        cases bitD D (p + i) <;> rfl
      · have : ¬ i < n + 1 := by omega
        simp [hi, this]
        cases bitD D (p + n)
        · simp
        · have : i - n ≠ 0 := by omega
          simpa using Nat.testBit_lt_two_pow (x := 1) (i := i - n) (Nat.one_lt_two_pow this)
theorem pk_byte (D : Nat → Nat) (j : Nat) (h : D j < 256) : pk D (8 * j) 8 = D j := by
  apply Nat.eq_of_testBit_eq
  intro i
  rw [pk_testBit]
  by_cases hi : i < 8
  · simp only [hi, decide_true, Bool.true_and, bitD]
    rw [show (8 * j + i) / 8 = j by omega, show (8 * j + i) % 8 = i by omega]
  · simp only [hi, decide_false, Bool.false_and]
    have : D j < 2 ^ i := Nat.lt_of_lt_of_le h (Nat.pow_le_pow_right (n := 2) (by omega) (show 8 ≤ i by omega))
    rw [Nat.testBit_lt_two_pow this]
theorem pk_eq (D E : Nat → Nat) (p q n : Nat) : pk D p n = pk E q n ↔ ∀ i, i < n → bitD D (p + i) = bitD E (q + i) := by
  constructor
  · intro h i hi
    have := congrArg (fun x => x.testBit i) h
    simp only [pk_testBit, hi, decide_true, Bool.true_and] at this
    exact this
  · intro h
    apply Nat.eq_of_testBit_eq
    intro i
    rw [pk_testBit, pk_testBit]
    by_cases hi : i < n
    · simp [hi, h i hi]
    · simp [hi]
theorem pk_shr (D : Nat → Nat) (p o n : Nat) (h : o ≤ n) : pk D p n / 2 ^ o = pk D (p + o) (n - o) := by
  have e : n = o + (n - o) := by omega
  rw [e, pk_split, Nat.add_mul_div_left _ _ (Nat.two_pow_pos o), Nat.div_eq_of_lt (pk_lt D p o), Nat.zero_add]
  congr 1
  omega
theorem pk_shl (D : Nat → Nat) (p k n m : Nat) (h : m - k ≤ n) (hk : k ≤ m) : pk D p n * 2 ^ k % 2 ^ m = 2 ^ k * pk D p (m - k) := by
  have e : n = (m - k) + (n - (m - k)) := by omega
  have em : m = (m - k) + k := by omega
  rw [e, pk_split]
  rw [Nat.add_mul, show 2 ^ (m - k) * pk D (p + (m - k)) (n - (m - k)) * 2 ^ k = 2 ^ m * pk D (p + (m - k)) (n - (m - k)) by
    rw [Nat.mul_assoc, Nat.mul_comm (pk _ _ _), ← Nat.mul_assoc, ← Nat.pow_add, ← em]]
  rw [Nat.add_mul_mod_self_left, Nat.mul_comm, Nat.mod_eq_of_lt]
  have := pk_lt D p (m - k)
  calc 2 ^ k * pk D p (m - k) < 2 ^ k * 2 ^ (m - k) := Nat.mul_lt_mul_of_pos_left this (Nat.two_pow_pos k)
    _ = 2 ^ m := by rw [← Nat.pow_add]; congr 1; omega
/-- Eight bytes are a word. -/
theorem pk_word (D : Nat → Nat) (s : Nat) (h : ∀ j, j < 8 → D (s + j) < 256) : pk D (8 * s) 64 = D s + D (s + 1) * 256 + D (s + 2) * 65536 + D (s + 3) * 16777216 + D (s + 4) * 4294967296 + D (s + 5) * 1099511627776 + D (s + 6) * 281474976710656 + D (s + 7) * 72057594037927936 := by
  have b := fun j hj => pk_byte D (s + j) (h j hj)
  have b0 := b 0 (by omega); have b1 := b 1 (by omega); have b2 := b 2 (by omega); have b3 := b 3 (by omega)
  have b4 := b 4 (by omega); have b5 := b 5 (by omega); have b6 := b 6 (by omega); have b7 := b 7 (by omega)
  rw [show (64 : Nat) = 8 + (8 + (8 + (8 + (8 + (8 + (8 + 8)))))) by rfl]
  simp only [pk_split]
  rw [show 8 * s = 8 * (s + 0) by rfl, show 8 * (s + 0) + 8 = 8 * (s + 1) by omega, show 8 * (s + 1) + 8 = 8 * (s + 2) by omega, show 8 * (s + 2) + 8 = 8 * (s + 3) by omega, show 8 * (s + 3) + 8 = 8 * (s + 4) by omega, show 8 * (s + 4) + 8 = 8 * (s + 5) by omega, show 8 * (s + 5) + 8 = 8 * (s + 6) by omega, show 8 * (s + 6) + 8 = 8 * (s + 7) by omega, b0, b1, b2, b3, b4, b5, b6, b7]
  simp only [Nat.add_zero]
  omega
end Go.Proofs.YthgbfmcicpmepaaDoor.B
