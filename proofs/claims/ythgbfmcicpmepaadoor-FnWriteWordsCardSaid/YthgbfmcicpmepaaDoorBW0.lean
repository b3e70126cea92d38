/- Bits that are written: numbers and rows of bytes. -/
import Derived.Test.YthgbfmcicpmepaaDoorBT8
namespace Go.Proofs.YthgbfmcicpmepaaDoor.V
open Go.RowKit Go.Proofs.YthgbfmcicpmepaaDoor.B Go.Proofs.YthgbfmcicpmepaaDoorW.PrintWords Go.Proofs.YthgbfmcicpmepaaDoorW.PrintLast Go.Proofs.YthgbfmcicpmepaaDoorW.PrintMore
set_option linter.unusedVariables false
set_option linter.unusedSimpArgs false
/-! ### And, and not -/
theorem and_k (k : IntKind) (x y : Nat) (hx : x < 2 ^ k.bits) (hy : y < 2 ^ k.bits) : bits .and k (x : Int) (y : Int) = k.wrap ((x &&& y : Nat) : Int) := by
  have e : bits .and k (x : Int) (y : Int) = k.wrap (((BitVec.ofInt k.bits (x : Int) &&& BitVec.ofInt k.bits (y : Int)).toNat : Nat) : Int) := rfl
  rw [e, BitVec.ofInt_natCast, BitVec.ofInt_natCast, BitVec.toNat_and, BitVec.toNat_ofNat, BitVec.toNat_ofNat, Nat.mod_eq_of_lt hx, Nat.mod_eq_of_lt hy]
theorem andNot_k (k : IntKind) (x y : Nat) (hx : x < 2 ^ k.bits) (hy : y < 2 ^ k.bits) : bits .andNot k (x : Int) (y : Int) = k.wrap ((x &&& (2 ^ k.bits - 1 - y) : Nat) : Int) := by
  have e : bits .andNot k (x : Int) (y : Int) = k.wrap (((BitVec.ofInt k.bits (x : Int) &&& ~~~ (BitVec.ofInt k.bits (y : Int))).toNat : Nat) : Int) := rfl
  rw [e, BitVec.ofInt_natCast, BitVec.ofInt_natCast, BitVec.toNat_and, BitVec.toNat_not, BitVec.toNat_ofNat, BitVec.toNat_ofNat, Nat.mod_eq_of_lt hx, Nat.mod_eq_of_lt hy]
theorem mask_and (x o n : Nat) (hx : x < 2 ^ n) (ho : o ≤ n) : x &&& (2 ^ n - 1 - (2 ^ o - 1)) = 2 ^ o * (x / 2 ^ o) := by
  apply Nat.eq_of_testBit_eq
  intro i
  rw [Nat.testBit_and, Nat.testBit_two_pow_mul, Nat.testBit_div_two_pow, Nat.sub_sub, Nat.add_comm 1, Nat.testBit_two_pow_sub_succ (Nat.lt_of_lt_of_le (Nat.sub_lt (Nat.two_pow_pos o) (by omega)) (Nat.pow_le_pow_right (by omega) ho)), Nat.testBit_two_pow_sub_one]
  by_cases hi : i < o
  · have : ¬ o ≤ i := by omega
    simp [hi, this]
  · have h1 : o ≤ i := by omega
    by_cases hn : i < n
    · simp [hi, h1, hn, show i - o + o = i by omega]
    · have : x.testBit i = false := Nat.testBit_lt_two_pow (Nat.lt_of_lt_of_le hx (Nat.pow_le_pow_right (by omega) (by omega)))
      simp [this, h1, show i - o + o = i by omega]
theorem and_mask64 (x o : Nat) (hx : x < 2 ^ 64) (ho : o ≤ 64) : bits .and .u64 (x : Int) ((2 ^ o - 1 : Nat) : Int) = ((x % 2 ^ o : Nat) : Int) := by
  have h2 : 2 ^ o ≤ 2 ^ 64 := Nat.pow_le_pow_right (by omega) ho
  have h3 := Nat.two_pow_pos o
  rw [and_k .u64 x _ hx (by show _ < 2 ^ 64; omega), Nat.and_two_pow_sub_one_eq_mod, wrap_u64 _ (Nat.lt_of_le_of_lt (Nat.mod_le _ _) hx)]
theorem not_mask64 (x o : Nat) (hx : x < 2 ^ 64) (ho : o ≤ 64) : bits .andNot .u64 (x : Int) ((2 ^ o - 1 : Nat) : Int) = ((2 ^ o * (x / 2 ^ o) : Nat) : Int) := by
  have h2 : 2 ^ o ≤ 2 ^ 64 := Nat.pow_le_pow_right (by omega) ho
  have h3 := Nat.two_pow_pos o
  rw [andNot_k .u64 x _ hx (by show _ < 2 ^ 64; omega)]
  show IntKind.u64.wrap ((x &&& (2 ^ 64 - 1 - (2 ^ o - 1)) : Nat) : Int) = _
  rw [mask_and x o 64 hx ho, wrap_u64 _ (Nat.lt_of_le_of_lt (Nat.mul_div_le _ _) hx)]
theorem and_mask8 (x o : Nat) (hx : x < 256) (ho : o ≤ 8) : bits .and .u8 (x : Int) ((2 ^ o - 1 : Nat) : Int) = ((x % 2 ^ o : Nat) : Int) := by
  have h2 : 2 ^ o ≤ 2 ^ 8 := Nat.pow_le_pow_right (by omega) ho
  have h3 := Nat.two_pow_pos o
  rw [and_k .u8 x _ hx (by show _ < 2 ^ 8; omega), Nat.and_two_pow_sub_one_eq_mod, wrap_u8 _ (Nat.lt_of_le_of_lt (Nat.mod_le _ _) hx)]
theorem not_mask8 (x o : Nat) (hx : x < 256) (ho : o ≤ 8) : bits .andNot .u8 (x : Int) ((2 ^ o - 1 : Nat) : Int) = ((2 ^ o * (x / 2 ^ o) : Nat) : Int) := by
  have h2 : 2 ^ o ≤ 2 ^ 8 := Nat.pow_le_pow_right (by omega) ho
  have h3 := Nat.two_pow_pos o
  rw [andNot_k .u8 x _ hx (by show _ < 2 ^ 8; omega)]
  show IntKind.u8.wrap ((x &&& (2 ^ 8 - 1 - (2 ^ o - 1)) : Nat) : Int) = _
  rw [mask_and x o 8 hx ho, wrap_u8 _ (Nat.lt_of_le_of_lt (Nat.mul_div_le _ _) hx)]
/-! ### A row of bytes of the call's own -/
/-- The row's block: its bytes. -/
structure Own (w : World) (b C L : Nat) (M : Nat → Nat) : Prop where
  byte : ∀ j, M j < 256
  blk : ∃ arr, w.heap[b]? = some (.cells arr 5 (0, 0)) ∧ arr.size = C ∧ ∀ j, j < L → arr[j]? = some (.int .u8 (M j))
theorem Own.cell {w : World} {b C L : Nat} {M : Nat → Nat} (h : Own w b C L M) (j : Nat) (hj : j < L) : w.cell? ⟨b, j, none⟩ = some (.int .u8 (M j)) := by
  obtain ⟨arr, h1, h2, h3⟩ := h.blk
  exact (blk_cell h1 j).trans (h3 j hj)
theorem Own.frozen {w : World} {b C L : Nat} {M : Nat → Nat} (h : Own w b C L M) (j : Nat) : w.frozen? ⟨b, j, none⟩ = false := by
  obtain ⟨arr, h1, h2, h3⟩ := h.blk
  exact blk_frozen h1 j
theorem Own.dat {w : World} {b C L : Nat} {M : Nat → Nat} (h : Own w b C L M) : Dat w b 0 L M := ⟨fun j hj => by rw [Nat.zero_add]; exact h.cell j hj, h.byte⟩
theorem Own.lt {w : World} {b C L : Nat} {M : Nat → Nat} (h : Own w b C L M) : b < w.heap.size := by
  obtain ⟨arr, h1, h2, h3⟩ := h.blk
  exact Tch.lt h1
theorem Own.tch {S : Nat → Prop} {w w' : World} {b C L : Nat} {M : Nat → Nat} (h : Own w b C L M) (k : Tch S w w') (hn : ¬ S b) : Own w' b C L M := by
  obtain ⟨arr, h1, h2, h3⟩ := h.blk
  exact ⟨h.byte, arr, k.blk h1 hn, h2, h3⟩
/-- One byte is another one. -/
def put1D (M : Nat → Nat) (s v : Nat) (j : Nat) : Nat := if j = s then v else M j
theorem Own.put {w : World} {b C L : Nat} {M : Nat → Nat} (h : Own w b C L M) (s v : Nat) (hv : v < 256) : Own (w.setCell ⟨b, s, none⟩ (.int .u8 (v : Int))) b C L (put1D M s v) := by
  obtain ⟨arr, h1, h2, h3⟩ := h.blk
  refine ⟨fun j => ?_, _, blk_put_at h1 rfl, by rw [Array.size_setIfInBounds]; exact h2, fun j hj => ?_⟩
  · unfold put1D
    split
    · exact hv
    · exact h.byte j
  · unfold put1D
    have hja : j < arr.size := by
      have := h3 j hj
      rcases Nat.lt_or_ge j arr.size with h' | h'
      · exact h'
      · rw [Array.getElem?_eq_none h'] at this
        cases this
    by_cases hjs : j = s
    · subst hjs
      rw [Array.getElem?_setIfInBounds_self_of_lt hja, if_pos rfl]
    · rw [Array.getElem?_setIfInBounds_ne (fun e => hjs e.symm), if_neg hjs]
      exact h3 j hj
theorem put1D_bit (M : Nat → Nat) (s v i : Nat) (hv : v < 256) : bitD (put1D M s v) i = if 8 * s ≤ i ∧ i < 8 * s + 8 then v.testBit (i - 8 * s) else bitD M i := by
  unfold bitD put1D
  by_cases h : i / 8 = s
  · rw [if_pos h, if_pos (by omega), show i - 8 * s = i % 8 by omega]
  · rw [if_neg h, if_neg (by omega)]
/-- Eight bytes are those of a word. -/
def putW (M : Nat → Nat) (s v : Nat) : Nat → Nat := put1D (put1D (put1D (put1D (put1D (put1D (put1D (put1D M s (v % 256)) (s + 1) (v / 256 % 256)) (s + 2) (v / 65536 % 256)) (s + 3) (v / 16777216 % 256)) (s + 4) (v / 4294967296 % 256)) (s + 5) (v / 1099511627776 % 256)) (s + 6) (v / 281474976710656 % 256)) (s + 7) (v / 72057594037927936 % 256)
theorem byte_bit (v k i : Nat) (hi : i < 8) : (v / 2 ^ k % 256).testBit i = v.testBit (k + i) := by
  rw [show (256 : Nat) = 2 ^ 8 by rfl, Nat.testBit_mod_two_pow, Nat.testBit_div_two_pow, Nat.add_comm]
  simp [hi]
theorem putW_bit (M : Nat → Nat) (s v i : Nat) : bitD (putW M s v) i = if 8 * s ≤ i ∧ i < 8 * s + 64 then v.testBit (i - 8 * s) else bitD M i := by
  have hb : ∀ x : Nat, x % 256 < 256 := fun x => Nat.mod_lt _ (by omega)
  unfold putW
  rw [put1D_bit _ _ _ _ (hb _), put1D_bit _ _ _ _ (hb _), put1D_bit _ _ _ _ (hb _), put1D_bit _ _ _ _ (hb _), put1D_bit _ _ _ _ (hb _), put1D_bit _ _ _ _ (hb _), put1D_bit _ _ _ _ (hb _), put1D_bit _ _ _ _ (hb _)]
  have b0 := byte_bit v 0; have b1 := byte_bit v 8; have b2 := byte_bit v 16; have b3 := byte_bit v 24
  have b4 := byte_bit v 32; have b5 := byte_bit v 40; have b6 := byte_bit v 48; have b7 := byte_bit v 56
  simp only [Nat.pow_zero, Nat.div_one, Nat.zero_add] at b0
  simp only [show (2 : Nat) ^ 8 = 256 by rfl] at b1
  simp only [show (2 : Nat) ^ 16 = 65536 by rfl] at b2
  simp only [show (2 : Nat) ^ 24 = 16777216 by rfl] at b3
  simp only [show (2 : Nat) ^ 32 = 4294967296 by rfl] at b4
  simp only [show (2 : Nat) ^ 40 = 1099511627776 by rfl] at b5
  simp only [show (2 : Nat) ^ 48 = 281474976710656 by rfl] at b6
  simp only [show (2 : Nat) ^ 56 = 72057594037927936 by rfl] at b7
  by_cases h7 : 8 * (s + 7) ≤ i ∧ i < 8 * (s + 7) + 8
  · rw [if_pos h7, if_pos (by omega), b7 _ (by omega)]; congr 1; omega
  rw [if_neg h7]
  by_cases h6 : 8 * (s + 6) ≤ i ∧ i < 8 * (s + 6) + 8
  · rw [if_pos h6, if_pos (by omega), b6 _ (by omega)]; congr 1; omega
  rw [if_neg h6]
  by_cases h5 : 8 * (s + 5) ≤ i ∧ i < 8 * (s + 5) + 8
  · rw [if_pos h5, if_pos (by omega), b5 _ (by omega)]; congr 1; omega
  rw [if_neg h5]
  by_cases h4 : 8 * (s + 4) ≤ i ∧ i < 8 * (s + 4) + 8
  · rw [if_pos h4, if_pos (by omega), b4 _ (by omega)]; congr 1; omega
  rw [if_neg h4]
  by_cases h3 : 8 * (s + 3) ≤ i ∧ i < 8 * (s + 3) + 8
  · rw [if_pos h3, if_pos (by omega), b3 _ (by omega)]; congr 1; omega
  rw [if_neg h3]
  by_cases h2 : 8 * (s + 2) ≤ i ∧ i < 8 * (s + 2) + 8
  · rw [if_pos h2, if_pos (by omega), b2 _ (by omega)]; congr 1; omega
  rw [if_neg h2]
  by_cases h1 : 8 * (s + 1) ≤ i ∧ i < 8 * (s + 1) + 8
  · rw [if_pos h1, if_pos (by omega), b1 _ (by omega)]; congr 1; omega
  rw [if_neg h1]
  by_cases h0 : 8 * s ≤ i ∧ i < 8 * s + 8
  · rw [if_pos h0, if_pos (by omega), b0 _ (by omega)]
  rw [if_neg h0, if_neg (by omega)]
/-- So many bits from a place on are those of a number, all others as before. -/
def Upd (M : Nat → Nat) (p n x : Nat) (M' : Nat → Nat) : Prop := ∀ i, bitD M' i = if p ≤ i ∧ i < p + n then x.testBit (i - p) else bitD M i
theorem putW_upd (M : Nat → Nat) (s v : Nat) : Upd M (8 * s) 64 v (putW M s v) := fun i => putW_bit M s v i
theorem put1D_upd (M : Nat → Nat) (s v : Nat) (hv : v < 256) : Upd M (8 * s) 8 v (put1D M s v) := fun i => put1D_bit M s v i hv
/-- A word or a byte across two: the low bits stay in the first, the high bits in the second. -/
theorem upd_split {M : Nat → Nat} {p o W x a nx : Nat} {M1 M2 : Nat → Nat} (ho : o ≤ W) (ha : a = pk M p o) (hx : x < 2 ^ W)
    (h1 : Upd M p W (a + 2 ^ o * (x % 2 ^ (W - o))) M1) (h2 : Upd M1 (p + W) W (x / 2 ^ (W - o) + 2 ^ o * (nx / 2 ^ o)) M2) (hnx : nx = pk M (p + W) W) : Upd M (p + o) W x M2 := by
  have la : a < 2 ^ o := by rw [ha]; exact pk_lt _ _ _
  have lq : x / 2 ^ (W - o) < 2 ^ o := by
    rw [Nat.div_lt_iff_lt_mul (Nat.two_pow_pos _), ← Nat.pow_add, show o + (W - o) = W by omega]
    exact hx
  intro i
  rw [h2 i]
  by_cases c2 : p + W ≤ i ∧ i < p + W + W
  · rw [if_pos c2, Nat.add_comm, Nat.testBit_two_pow_mul_add _ lq]
    by_cases hi : i - (p + W) < o
    · rw [if_pos hi, if_pos (by omega), Nat.testBit_div_two_pow]
      congr 1
      omega
    · rw [if_neg hi, if_neg (by omega), Nat.testBit_div_two_pow, hnx, pk_testBit, show i - (p + W) - o + o = i - (p + W) by omega, show p + W + (i - (p + W)) = i by omega]
      simp [show i - (p + W) < W by omega]
  · rw [if_neg c2, h1 i]
    by_cases c1 : p ≤ i ∧ i < p + W
    · rw [if_pos c1, Nat.add_comm, Nat.testBit_two_pow_mul_add _ la]
      by_cases hi : i - p < o
      · rw [if_pos hi, if_neg (by omega), ha, pk_testBit, show p + (i - p) = i by omega]
        simp [hi]
      · rw [if_neg hi, if_pos (by omega), Nat.testBit_mod_two_pow, show i - p - o = i - (p + o) by omega]
        simp [show i - (p + o) < W - o by omega]
    · rw [if_neg c1, if_neg (by omega)]
theorem Upd.pk {M M' : Nat → Nat} {p n x : Nat} (h : Upd M p n x M') (q k : Nat) (h1 : p ≤ q) (h2 : q + k ≤ p + n) : B.pk M' q k = x / 2 ^ (q - p) % 2 ^ k := by
  apply Nat.eq_of_testBit_eq
  intro i
  rw [pk_testBit, Nat.testBit_mod_two_pow, Nat.testBit_div_two_pow, h (q + i)]
  by_cases hi : i < k
  · rw [if_pos (by omega), show q + i - p = i + (q - p) by omega]
  · simp [hi]
end Go.Proofs.YthgbfmcicpmepaaDoor.V
