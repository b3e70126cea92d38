/- A writer of words: its states, and what each call makes of them. -/
import Derived.Test.YthgbfmcicpmepaaDoorBW6
import Derived.Test.YthgbfmcicpmepaaDoorBW7
import Derived.Test.YthgbfmcicpmepaaDoorBW8
import Derived.Test.YthgbfmcicpmepaaDoorBW9
namespace Go.Proofs.YthgbfmcicpmepaaDoor.V
open Go.RowKit Go.Proofs.YthgbfmcicpmepaaDoor.B Go.Proofs.YthgbfmcicpmepaaDoorW.PrintWords Go.Proofs.YthgbfmcicpmepaaDoorW.PrintLast Go.Proofs.YthgbfmcicpmepaaDoorW.PrintMore
set_option linter.unusedVariables false
set_option linter.unusedSimpArgs false
/-- A writer of words at a byte of a row that is as it is. -/
def Ww (w : World) (g b C L s o : Nat) (M : Nat → Nat) : Prop := ∃ (len : Int) (cw : Nat), cw < 2 ^ 64 ∧ cw % 2 ^ o = pk M (8 * s) o ∧ Ws w g b C L s o len cw
theorem Ws.tch {S : Nat → Prop} {w w' : World} {g b C L s o : Nat} {len : Int} {cw : Nat} (h : Ws w g b C L s o len cw) (t : Tch S w w') (hn : ¬ S g) : Ws w' g b C L s o len cw := by
  obtain ⟨A, hA, hb⟩ := h
  exact ⟨A, hA, t.blk hb hn⟩
theorem Ww.tch {S : Nat → Prop} {w w' : World} {g b C L s o : Nat} {M : Nat → Nat} (h : Ww w g b C L s o M) (t : Tch S w w') (hn : ¬ S g) : Ww w' g b C L s o M := by
  obtain ⟨len, cw, h1, h2, h3⟩ := h
  exact ⟨len, cw, h1, h2, h3.tch t hn⟩
theorem pk_zero (M : Nat → Nat) (p : Nat) : pk M p 0 = 0 := rfl
theorem ww_new (b C L : Nat) (M : Nat → Nat) (p s o n : Nat) (w : World) (hO : Own w b C L M) (hL : L ≤ C) (hp : p + n ≤ 8 * L) (hE : L < 2 ^ 40) (hs : s = p / 8) (ho : o = p % 8) (hn : 0 < n) :
    Calls Tryd.prog 18 #[.slice (some ⟨b, 0, none⟩) L C, .int .i64 (p : Int), .int .i64 (n : Int)] w fun e w' => e = .returned (.pointer (some ⟨w.heap.size, 0, none⟩)) ∧ Below w.heap.size w w' ∧ Ww w' w.heap.size b C L s o M := by
  by_cases h0 : p % 8 = 0
  · refine (new18a b C L M p s o n w hO hL hp hE hs ho h0 hn).mono ?_
    rintro e w' ⟨rfl, hb, hW⟩
    obtain rfl : o = 0 := by omega
    exact ⟨rfl, hb, _, 0, by decide, by simp [pk], hW⟩
  · by_cases h6 : 64 ≤ n
    · refine (new18b b C L M p s o n w hO hL hp hE hs ho h0 h6).mono ?_
      rintro e w' ⟨rfl, hb, hW⟩
      refine ⟨rfl, hb, _, _, pk_lt _ _ _, ?_, hW⟩
      rw [show (64 : Nat) = o + (64 - o) by omega, pk_split, Nat.add_mul_mod_self_left, Nat.mod_eq_of_lt (pk_lt _ _ _)]
    · refine (new18c b C L M p s o n w hO hL hp hE hs ho h0 hn (by omega)).mono ?_
      rintro e w' ⟨rfl, hb, hW⟩
      have hb2 := hO.byte s
      refine ⟨rfl, hb, _, _, by omega, ?_, hW⟩
      rw [← pk_byte M s hb2, show (8 : Nat) = o + (8 - o) by omega, pk_split, Nat.add_mul_mod_self_left, Nat.mod_eq_of_lt (pk_lt _ _ _), show o + (8 - o) = 8 by omega]
theorem ww_word (g b C L : Nat) (M : Nat → Nat) (s o x : Nat) (w : World) (hO : Own w b C L M) (hg : b ≠ g) (h : Ww w g b C L s o M) (hL : L ≤ C) (hs : 8 * s + o + 64 ≤ 8 * L) (ho : o < 8) (h16 : 0 < o → s + 16 ≤ L) (hE : L < 2 ^ 40) (hx : x < 2 ^ 64) :
    Calls Tryd.prog 19 #[.pointer (some ⟨g, 0, none⟩), .int .u64 (x : Int)] w fun e w' => e = .returned (.tuple #[]) ∧ Tch (fun k => k = g ∨ k = b) w w' ∧ ∃ M', Own w' b C L M' ∧ Upd M (8 * s + o) 64 x M' ∧ Ww w' g b C L (s + 8) o M' := by
  obtain ⟨len, cw, h1, h2, h3⟩ := h
  rcases Nat.eq_zero_or_pos o with rfl | hop
  · refine (word19z g b C L M s x cw len w hO hg h3 hL (by omega) hE hx).mono ?_
    rintro e w' ⟨rfl, T, M', O', U, W⟩
    exact ⟨rfl, T, M', O', U, len, cw, h1, by simp [pk, Nat.mod_one], W⟩
  · refine (word19 g b C L M s o x cw len w hO hg h3 hL (h16 hop) hop ho hE hx h1 h2).mono ?_
    rintro e w' ⟨rfl, T, M', cw', O', U, W, l, p⟩
    exact ⟨rfl, T, M', O', U, len, cw', l, p, W⟩
theorem ww_byte (g b C L : Nat) (M : Nat → Nat) (s o x : Nat) (w : World) (hO : Own w b C L M) (hg : b ≠ g) (h : Ww w g b C L s o M) (hL : L ≤ C) (hs : 8 * s + o + 8 ≤ 8 * L) (ho : o < 8) (hE : L < 2 ^ 40) (hx : x < 256) :
    Calls Tryd.prog 20 #[.pointer (some ⟨g, 0, none⟩), .int .u8 (x : Int), .int .i64 8] w fun e w' => e = .returned (.tuple #[]) ∧ Tch (fun k => k = g ∨ k = b) w w' ∧ ∃ M', Own w' b C L M' ∧ Upd M (8 * s + o) 8 x M' ∧ Ww w' g b C L (s + 1) o M' := by
  obtain ⟨len, cw, h1, h2, h3⟩ := h
  rcases Nat.eq_zero_or_pos o with rfl | hop
  · refine (byte20z g b C L M s x cw len w hO hg h3 hL (by omega) hE hx).mono ?_
    rintro e w' ⟨rfl, T, M', O', U, W⟩
    exact ⟨rfl, T, M', O', U, len, cw, h1, by simp [pk, Nat.mod_one], W⟩
  · refine (byte20 g b C L M s o x cw len w hO hg h3 hL (by omega) hop ho hE hx h1 h2).mono ?_
    rintro e w' ⟨rfl, T, M', cw', O', U, W, l, p⟩
    exact ⟨rfl, T, M', O', U, len, cw', l, p, W⟩
/-- A byte, or its first bits. -/
theorem ww_tail (g b C L : Nat) (M : Nat → Nat) (s o x v : Nat) (w : World) (hT : TabAt w) (hO : Own w b C L M) (hg : b ≠ g) (h : Ww w g b C L s o M) (hL : L ≤ C) (hs : 8 * s + o + v ≤ 8 * L) (ho : o < 8) (h0 : 0 < v) (h8 : v ≤ 8) (hE : L < 2 ^ 40) (hx : x < 256) :
    Calls Tryd.prog 20 #[.pointer (some ⟨g, 0, none⟩), .int .u8 (x : Int), .int .i64 (v : Int)] w fun e w' => e = .returned (.tuple #[]) ∧ Tch (fun k => k = g ∨ k = b) w w' ∧ ∃ M', Own w' b C L M' ∧ Upd M (8 * s + o) v x M' ∧ (v = 8 → Ww w' g b C L (s + 1) o M') := by
  by_cases h : v = 8
  · subst h
    refine (ww_byte g b C L M s o x w hO hg (by assumption) hL hs ho hE hx).mono ?_
    rintro e w' ⟨rfl, T, M', O', U, W⟩
    exact ⟨rfl, T, M', O', U, fun _ => W⟩
  · obtain ⟨len, cw, h1, h2, h3⟩ := ‹Ww w g b C L s o M›
    refine (last20 g b C L M s o x v cw len w hT hO hg h3 hL hs ho h0 (by omega) hE hx).mono ?_
    rintro e w' ⟨rfl, T, M', O', U⟩
    exact ⟨rfl, T, M', O', U, fun e => absurd e h⟩
/-- What is written so far: bits from a place on are those of a list, all others as at first. -/
def Wrote (M0 : Nat → Nat) (p n : Nat) (f : Nat → Bool) (M : Nat → Nat) : Prop := ∀ j, bitD M j = if p ≤ j ∧ j < p + n then f (j - p) else bitD M0 j
theorem Wrote.zero (M : Nat → Nat) (p : Nat) (f : Nat → Bool) : Wrote M p 0 f M := fun j => by rw [if_neg (by omega)]
theorem Wrote.more {M0 M M' : Nat → Nat} {p n m x : Nat} {f : Nat → Bool} (h : Wrote M0 p n f M) (u : Upd M (p + n) m x M') (hx : ∀ i, i < m → x.testBit i = f (n + i)) : Wrote M0 p (n + m) f M' := by
  intro j
  rw [u j]
  by_cases c : p + n ≤ j ∧ j < p + n + m
  · rw [if_pos c, if_pos (by omega), hx _ (by omega)]
    congr 1
    omega
  · rw [if_neg c, h j]
    by_cases c2 : p ≤ j ∧ j < p + n
    · rw [if_pos c2, if_pos (by omega)]
    · rw [if_neg c2, if_neg (by omega)]
/-- Two rows of bytes with the same bits are the same. -/
theorem same_row {M N : Nat → Nat} (hM : ∀ j, M j < 256) (hN : ∀ j, N j < 256) (h : ∀ j, bitD M j = bitD N j) (i : Nat) : M i = N i := by
  apply Nat.eq_of_testBit_eq
  intro k
  by_cases hk : k < 8
  · have := h (8 * i + k)
    unfold bitD at this
    rw [show (8 * i + k) / 8 = i by omega, show (8 * i + k) % 8 = k by omega] at this
    exact this
  · have : (256 : Nat) ≤ 2 ^ k := Nat.le_trans (show 256 ≤ 2 ^ 8 by decide) (Nat.pow_le_pow_right (by omega) (by omega))
    rw [Nat.testBit_lt_two_pow (Nat.lt_of_lt_of_le (hM i) this), Nat.testBit_lt_two_pow (Nat.lt_of_lt_of_le (hN i) this)]
end Go.Proofs.YthgbfmcicpmepaaDoor.V
