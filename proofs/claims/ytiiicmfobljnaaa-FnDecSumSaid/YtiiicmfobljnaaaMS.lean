/- Words of sums and differences of decimals. -/
import Derived.Test.YtiiicmfobljnaaaM8
import Derived.Laws.BitsAllLaws
namespace Go.Proofs.Ytiiicmfobljnaaa.M
open Go.RowKit Go.Proofs.YtiiicmfobljnaaaW.PrintWords Go.Proofs.YtiiicmfobljnaaaW.PrintLast Go.Proofs.YtiiicmfobljnaaaW.PrintMore Go.Proofs.Ytiiicmfobljnaaa.V
attribute [local irreducible] dv BB rd

theorem wordZ_zero (z : Int) : wordZ z 0 = z % 18446744073709551616 := by simp [wordZ]
theorem wordZ_succ (z : Int) (i : Nat) : wordZ z (i + 1) = wordZ (z / 18446744073709551616) i := by
  unfold wordZ
  have e : (2 : Int) ^ (64 * (i + 1)) = 18446744073709551616 * 2 ^ (64 * i) := by rw [show 64 * (i + 1) = 64 * i + 64 by omega, Int.pow_add]; grind
  rw [e, ← Int.ediv_ediv_of_nonneg (by decide)]
theorem wordsZ_succ (z : Int) (n : Nat) : wordsZ z (n + 1) = z % 18446744073709551616 :: wordsZ (z / 18446744073709551616) n := by
  unfold wordsZ
  rw [List.range_succ_eq_map, List.map_cons, wordZ_zero, List.map_map]
  congr 1
  refine List.map_congr_left fun i _ => ?_
  exact wordZ_succ z i
theorem wordsZ_zero (z : Int) : wordsZ z 0 = [] := rfl
theorem chain_mod (x t : Int) : (x + 18446744073709551616 * t) % 18446744073709551616 = x % 18446744073709551616 := by omega
theorem chain_div (x t : Int) : (x + 18446744073709551616 * t) / 18446744073709551616 = x / 18446744073709551616 + t := by omega
theorem wordsZ_chain (x t : Int) (n : Nat) : wordsZ (x + 18446744073709551616 * t) (n + 1) = x % 18446744073709551616 :: wordsZ (x / 18446744073709551616 + t) n := by
  rw [wordsZ_succ, chain_mod, chain_div]
theorem sv_two {a b : Int} (ha : 0 ≤ b ∧ b < 18446744073709551616) : sv [a, b] = a + 18446744073709551616 * wrap64 b := by
  simp only [sv, uw, List.getLastD_cons, List.getLastD_nil, List.length_cons, List.length_nil]
  unfold wrap64
  split <;> omega
theorem sv_four {a b c d : Int} : ∃ e, sv [a, b, c, d] = a + 18446744073709551616 * (b + 18446744073709551616 * (c + 18446744073709551616 * (d + 18446744073709551616 * e))) := by
  simp only [sv, uw, List.getLastD_cons, List.getLastD_nil, List.length_cons, List.length_nil]
  split
  · exact ⟨0, by omega⟩
  · exact ⟨-1, by omega⟩
theorem wrW128 (z : Int) : wrW 128 z = [z % 18446744073709551616, z / 18446744073709551616 % 18446744073709551616] := by
  show (if (128 : Int) = 32 then _ else wordsZ z 2) = _
  rw [if_neg (by decide), wordsZ_succ, wordsZ_succ]; rfl
theorem wrW256 (z : Int) : wrW 256 z = wordsZ z 4 := by
  show (if (256 : Int) = 32 then _ else wordsZ z 4) = _
  rw [if_neg (by decide)]
theorem wrW32 (z : Int) : wrW 32 z = [IntKind.u64.wrap (wrap64 (wrap32 z))] := by
  show (if (32 : Int) = 32 then _ else _) = _
  rw [if_pos rfl, wrap32_mod]
/-- 256 bits: the sum, word by word. -/
theorem sum256 (a0 a1 a2 a3 b0 b1 b2 b3 e f : Int) (A B : Int) (hA : A = a0 + 18446744073709551616 * (a1 + 18446744073709551616 * (a2 + 18446744073709551616 * (a3 + 18446744073709551616 * e))))
    (hB : B = b0 + 18446744073709551616 * (b1 + 18446744073709551616 * (b2 + 18446744073709551616 * (b3 + 18446744073709551616 * f)))) :
    wordsZ (A + B) 4 = [(a0 + b0) % 18446744073709551616, (a1 + b1 + (a0 + b0) / 18446744073709551616) % 18446744073709551616,
      (a2 + b2 + (a1 + b1 + (a0 + b0) / 18446744073709551616) / 18446744073709551616) % 18446744073709551616,
      (a3 + b3 + (a2 + b2 + (a1 + b1 + (a0 + b0) / 18446744073709551616) / 18446744073709551616) / 18446744073709551616) % 18446744073709551616] := by
  have h : A + B = (a0 + b0) + 18446744073709551616 * ((a1 + b1) + 18446744073709551616 * ((a2 + b2) + 18446744073709551616 * ((a3 + b3) + 18446744073709551616 * (e + f)))) := by rw [hA, hB]; grind
  rw [h, wordsZ_chain]
  generalize (a0 + b0) / 18446744073709551616 = c1
  rw [← Int.add_assoc, Int.add_comm c1, wordsZ_chain]
  generalize (a1 + b1 + c1) / 18446744073709551616 = c2
  rw [← Int.add_assoc, Int.add_comm c2, wordsZ_chain]
  generalize (a2 + b2 + c2) / 18446744073709551616 = c3
  rw [← Int.add_assoc, Int.add_comm c3, wordsZ_chain, wordsZ_zero]
theorem xor_max (a : Int) (h0 : 0 ≤ a) (h1 : a < 18446744073709551616) : bits .xor .u64 IntKind.u64.max a = 18446744073709551615 - a := by
  obtain ⟨n, rfl⟩ := Int.eq_ofNat_of_zero_le h0
  rw [show IntKind.u64.max = ((18446744073709551615 : Nat) : Int) from rfl, u64_xor_nat _ _ (by omega) (by omega)]
  have e : 18446744073709551615 ^^^ n = 18446744073709551615 - n := by
    apply Nat.eq_of_testBit_eq
    intro i
    have h3 := Nat.testBit_two_pow_sub_succ (n := 64) (x := n) (by omega) i
    have h4 := Nat.testBit_two_pow_sub_one 64 i
    rw [show 2 ^ 64 - (n + 1) = 18446744073709551615 - n by omega] at h3
    rw [show 2 ^ 64 - 1 = 18446744073709551615 by omega] at h4
    rw [h3, Nat.testBit_xor, h4]
    by_cases c : i < 64
    · simp [c]
    · have : n.testBit i = false := Nat.testBit_lt_two_pow (Nat.lt_of_lt_of_le (show n < 2 ^ 64 by omega) (Nat.pow_le_pow_right (by omega) (by omega)))
      simp [c, this]
  rw [e]
  omega
/-- The negative of words. -/
theorem neg256_val (b0 b1 b2 b3 p0 p1 p2 p3 q1 q2 q3 f : Int) (B : Int) (h0 : 0 ≤ b0 ∧ b0 < 18446744073709551616) (h1 : 0 ≤ b1 ∧ b1 < 18446744073709551616) (h2 : 0 ≤ b2 ∧ b2 < 18446744073709551616) (h3 : 0 ≤ b3 ∧ b3 < 18446744073709551616)
    (hB : B = b0 + 18446744073709551616 * (b1 + 18446744073709551616 * (b2 + 18446744073709551616 * (b3 + 18446744073709551616 * f))))
    (f0 : p0 = (18446744073709551616 - b0) % 18446744073709551616) (f1 : p1 = (18446744073709551616 - b1) % 18446744073709551616) (f2 : p2 = (18446744073709551616 - b2) % 18446744073709551616) (f3 : p3 = (18446744073709551616 - b3) % 18446744073709551616)
    (g1 : q1 = 18446744073709551615 - b1) (g2 : q2 = 18446744073709551615 - b2) (g3 : q3 = 18446744073709551615 - b3) :
    ∃ g, -B = p0 + 18446744073709551616 * ((if p0 = 0 then p1 else q1) + 18446744073709551616 * ((if p0 = 0 ∧ p1 = 0 then p2 else q2) + 18446744073709551616 * ((if p0 = 0 ∧ p1 = 0 ∧ p2 = 0 then p3 else q3) + 18446744073709551616 * g))) := by
  by_cases c0 : p0 = 0
  · have d0 : b0 = 0 := by omega
    by_cases c1 : p1 = 0
    · have d1 : b1 = 0 := by omega
      by_cases c2 : p2 = 0
      · have d2 : b2 = 0 := by omega
        simp only [c0, c1, c2, and_self, if_true]
        by_cases c3 : b3 = 0
        · exact ⟨-f, by omega⟩
        · exact ⟨-f - 1, by omega⟩
      · simp only [c0, c1, c2, and_false, and_self, if_true, if_false]
        exact ⟨-f - 1, by omega⟩
    · simp only [c0, c1, and_false, false_and, if_true, if_false]
      exact ⟨-f - 1, by omega⟩
  · simp only [c0, false_and, if_false]
    exact ⟨-f - 1, by omega⟩
end Go.Proofs.Ytiiicmfobljnaaa.M
