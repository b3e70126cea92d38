/- What impl.DecPow answers, at 32 and 64 bits, called with decimals, the exponent not negative: the power, wrapped around. -/
import Derived.Test.YtiiicmfobljnaaaTP
namespace Go.Proofs.Ytiiicmfobljnaaa.V
set_option linter.unusedVariables false
open Go.RowKit Go.Proofs.YtiiicmfobljnaaaW.PrintWords Go.Proofs.YtiiicmfobljnaaaW.PrintLast Go.Proofs.YtiiicmfobljnaaaW.PrintMore

theorem and_one64 (n : Nat) (h : n < 9223372036854775808) : Go.bits .and .i64 (n : Int) 1 = ((n % 2 : Nat) : Int) := by
  have e3 := bits_mask .i64 63 (by decide) (fun z h0 h1 => by rw [IntKind.wrap_i64]; omega) 1 (by decide) ((n : Nat) : Int) (by omega) (by omega)
  rw [show ((2 : Int) ^ 1 - 1) = 1 from by decide, show ((2 : Int) ^ 1) = 2 from by decide] at e3
  rw [e3]
  omega
theorem and_one32 (n : Nat) (h : n < 2147483648) : Go.bits .and .i32 (n : Int) 1 = ((n % 2 : Nat) : Int) := by
  have e3 := bits_mask .i32 31 (by decide) (fun z h0 h1 => by rw [IntKind.wrap_i32]; omega) 1 (by decide) ((n : Nat) : Int) (by omega) (by omega)
  rw [show ((2 : Int) ^ 1 - 1) = 1 from by decide, show ((2 : Int) ^ 1) = 2 from by decide] at e3
  rw [e3]
  omega
theorem pow_congr {M a b : Int} (h : a % M = b % M) (n : Nat) : a ^ n % M = b ^ n % M := by
  induction n with
  | zero => rw [Int.pow_zero, Int.pow_zero]
  | succ n ih => rw [Int.pow_succ, Int.pow_succ, Int.mul_emod, ih, h, ← Int.mul_emod]
theorem mul_congr {M a b c d : Int} (h : a % M = b % M) (g : c % M = d % M) : a * c % M = b * d % M := by rw [Int.mul_emod, h, g, ← Int.mul_emod]
theorem wrap64_congr {a b : Int} (h : a % 18446744073709551616 = b % 18446744073709551616) : wrap64 a = wrap64 b := by unfold wrap64; omega
theorem wrap32_congr {a b : Int} (h : a % 4294967296 = b % 4294967296) : wrap32 a = wrap32 b := by unfold wrap32; omega
theorem wrap64_emod (a : Int) : wrap64 a % 18446744073709551616 = a % 18446744073709551616 := by unfold wrap64; omega
theorem wrap32_emod (a : Int) : wrap32 a % 4294967296 = a % 4294967296 := by unfold wrap32; omega

theorem pow64_l0 (n : Nat) : ∀ (x0 x5 : Int), n < 9223372036854775808 → wrap64 x5 = x5 → ∃ k, decimal_intPow_int64.l0 k x0 (n : Int) x5 = some (wrap64 (x5 * x0 ^ n)) := by
  induction n using Nat.strongRecOn with
  | ind n ih =>
    intro x0 x5 hn h5
    have e2 : (n : Int) / 2 = ((n / 2 : Nat) : Int) := by omega
    by_cases c : n % 2 = 1
    · by_cases z : n / 2 = 0
      · have : n = 1 := by omega
        subst this
        refine ⟨1, ?_⟩
        simp only [decimal_intPow_int64.l0]
        rw [and_one64 1 hn, if_pos (by decide), if_pos (by decide), Int.pow_one]
      · obtain ⟨k, hk⟩ := ih (n / 2) (by omega) (wrap64 (x0 * x0)) (wrap64 (x5 * x0)) (by omega) (wrap64_congr (wrap64_emod _))
        refine ⟨k + 1, ?_⟩
        simp only [decimal_intPow_int64.l0]
        rw [and_one64 n hn, if_pos (by omega), if_neg (by omega), e2, hk]
        congr 1
        refine wrap64_congr ?_
        have hs : x5 * x0 ^ n = (x5 * x0) * (x0 * x0) ^ (n / 2) := by
          have : x0 ^ n = x0 * (x0 * x0) ^ (n / 2) := by
            conv => lhs; rw [show n = 2 * (n / 2) + 1 from by omega, Int.pow_succ, Int.pow_mul]
            rw [Int.pow_succ, Int.pow_succ, Int.pow_zero, Int.one_mul, Int.mul_comm]
          rw [this, Int.mul_assoc]
        rw [hs]
        exact mul_congr (wrap64_emod _) (pow_congr (wrap64_emod _) _)
    · by_cases z : n / 2 = 0
      · have : n = 0 := by omega
        subst this
        refine ⟨1, ?_⟩
        simp only [decimal_intPow_int64.l0]
        rw [and_one64 0 hn, if_neg (by decide), if_pos (by decide), Int.pow_zero, Int.mul_one, h5]
      · obtain ⟨k, hk⟩ := ih (n / 2) (by omega) (wrap64 (x0 * x0)) x5 (by omega) h5
        refine ⟨k + 1, ?_⟩
        simp only [decimal_intPow_int64.l0]
        rw [and_one64 n hn, if_neg (by omega), if_neg (by omega), e2, hk]
        congr 1
        refine wrap64_congr ?_
        have hs : x5 * x0 ^ n = x5 * (x0 * x0) ^ (n / 2) := by
          have : x0 ^ n = (x0 * x0) ^ (n / 2) := by
            conv => lhs; rw [show n = 2 * (n / 2) from by omega, Int.pow_mul]
            rw [Int.pow_succ, Int.pow_succ, Int.pow_zero, Int.one_mul]
          rw [this]
        rw [hs]
        exact mul_congr rfl (pow_congr (wrap64_emod _) _)
theorem pow32_l0 (n : Nat) : ∀ (x0 x5 : Int), n < 2147483648 → wrap32 x5 = x5 → ∃ k, decimal_intPow_int32.l0 k x0 (n : Int) x5 = some (wrap32 (x5 * x0 ^ n)) := by
  induction n using Nat.strongRecOn with
  | ind n ih =>
    intro x0 x5 hn h5
    have e2 : (n : Int) / 2 = ((n / 2 : Nat) : Int) := by omega
    by_cases c : n % 2 = 1
    · by_cases z : n / 2 = 0
      · have : n = 1 := by omega
        subst this
        refine ⟨1, ?_⟩
        simp only [decimal_intPow_int32.l0]
        rw [and_one32 1 hn, if_pos (by decide), if_pos (by decide), Int.pow_one]
      · obtain ⟨k, hk⟩ := ih (n / 2) (by omega) (wrap32 (x0 * x0)) (wrap32 (x5 * x0)) (by omega) (wrap32_congr (wrap32_emod _))
        refine ⟨k + 1, ?_⟩
        simp only [decimal_intPow_int32.l0]
        rw [and_one32 n hn, if_pos (by omega), if_neg (by omega), e2, hk]
        congr 1
        refine wrap32_congr ?_
        have hs : x5 * x0 ^ n = (x5 * x0) * (x0 * x0) ^ (n / 2) := by
          have : x0 ^ n = x0 * (x0 * x0) ^ (n / 2) := by
            conv => lhs; rw [show n = 2 * (n / 2) + 1 from by omega, Int.pow_succ, Int.pow_mul]
            rw [Int.pow_succ, Int.pow_succ, Int.pow_zero, Int.one_mul, Int.mul_comm]
          rw [this, Int.mul_assoc]
        rw [hs]
        exact mul_congr (wrap32_emod _) (pow_congr (wrap32_emod _) _)
    · by_cases z : n / 2 = 0
      · have : n = 0 := by omega
        subst this
        refine ⟨1, ?_⟩
        simp only [decimal_intPow_int32.l0]
        rw [and_one32 0 hn, if_neg (by decide), if_pos (by decide), Int.pow_zero, Int.mul_one, h5]
      · obtain ⟨k, hk⟩ := ih (n / 2) (by omega) (wrap32 (x0 * x0)) x5 (by omega) h5
        refine ⟨k + 1, ?_⟩
        simp only [decimal_intPow_int32.l0]
        rw [and_one32 n hn, if_neg (by omega), if_neg (by omega), e2, hk]
        congr 1
        refine wrap32_congr ?_
        have hs : x5 * x0 ^ n = x5 * (x0 * x0) ^ (n / 2) := by
          have : x0 ^ n = (x0 * x0) ^ (n / 2) := by
            conv => lhs; rw [show n = 2 * (n / 2) from by omega, Int.pow_mul]
            rw [Int.pow_succ, Int.pow_succ, Int.pow_zero, Int.one_mul]
          rw [this]
        rw [hs]
        exact mul_congr rfl (pow_congr (wrap32_emod _) _)
theorem pow64_eq (x y : Int) (h0 : 0 ≤ y) (h1 : y < 9223372036854775808) : ∃ k, decimal_Decimal64_Pow.f k x y = some (wrap64 (x ^ y.toNat)) := by
  obtain ⟨k, hk⟩ := pow64_l0 y.toNat x 1 (by omega) (by unfold wrap64; omega)
  refine ⟨k, ?_⟩
  unfold decimal_Decimal64_Pow.f decimal_intPow_int64.f
  rw [show ((y.toNat : Nat) : Int) = y by omega, Int.one_mul] at hk
  rw [hk, Option.bind_some]
theorem pow32_eq (x y : Int) (h0 : 0 ≤ y) (h1 : y < 2147483648) : ∃ k, decimal_Decimal32_Pow.f k x y = some (wrap32 (x ^ y.toNat)) := by
  obtain ⟨k, hk⟩ := pow32_l0 y.toNat x 1 (by omega) (by unfold wrap32; omega)
  refine ⟨k, ?_⟩
  unfold decimal_Decimal32_Pow.f decimal_intPow_int32.f
  rw [show ((y.toNat : Nat) : Int) = y by omega, Int.one_mul] at hk
  rw [hk, Option.bind_some]

theorem cell0' {w : World} {A : Option Addr} {l : List Int} (h : Kd.C (Kd.int .u64) w A l.length l) (hl : l.length = 1) : ∃ ad, A = some ad ∧ w.cell? ad = some (.int .u64 (rd l 0)) := by
  obtain ⟨ad, e, hx⟩ := Kd.at_int h 0 (by omega) (by omega)
  rw [show ((0 : Int)).toNat = 0 from rfl, Addr.add_zero'] at hx
  exact ⟨ad, e, hx⟩

/-- At 32 and 64 bits, of decimals, the exponent not negative: the power; nothing is said of others. -/
def impl_DecPow.f (a0 : Int) (l1 l2 : List Int) : Option (List Int × Bool) :=
  if a0 = 64 ∧ l1.length = 1 ∧ l2.length = 1 ∧ 0 ≤ wrap64 (rd l2 0) then
    some ([IntKind.u64.wrap (wrap64 ((wrap64 (rd l1 0)) ^ (wrap64 (rd l2 0)).toNat))], true)
  else if a0 = 32 ∧ l1.length = 1 ∧ l2.length = 1 ∧ wrap64 (rd l1 0) = wrap64 (wrap32 (rd l1 0)) ∧ wrap64 (rd l2 0) = wrap64 (wrap32 (rd l2 0)) ∧ 0 ≤ wrap32 (rd l2 0) then
    some ([IntKind.u64.wrap (wrap64 (wrap32 ((wrap32 (rd l1 0)) ^ (wrap32 (rd l2 0)).toNat)))], true)
  else none
theorem impl_DecPow.calls (a0 : Int) (A1 : Option Addr) (c1 : Nat) (l1 : List Int) (A2 : Option Addr) (c2 : Nat) (l2 : List Int) (r1 : List Int) (r2 : Bool) (w : World)
    (hr1 : Kd.C (Kd.int .u64) w A1 l1.length l1) (hc1 : l1.length ≤ c1) (hr2 : Kd.C (Kd.int .u64) w A2 l2.length l2) (hc2 : l2.length ≤ c2) (h : impl_DecPow.f a0 l1 l2 = some (r1, r2)) :
    Calls Try.prog 13 #[.int .i64 a0, .slice A1 l1.length c1, .slice A2 l2.length c2] w fun e w' => ∃ v1_, e = .returned (.tuple #[v1_, .bool r2]) ∧ Kd.R (Kd.int .u64) 25 w' w.heap.size (fun k_ => w.heap.size ≤ k_) v1_ r1 ∧ Below w.heap.size w w' := by
  unfold impl_DecPow.f at h
  split at h
  · next c =>
    obtain ⟨rfl, e1, e2, c3⟩ := c
    obtain ⟨ad1, rfl, g1⟩ := cell0' hr1 e1
    obtain ⟨ad2, rfl, g2⟩ := cell0' hr2 e2
    simp only [Option.some.injEq, Prod.mk.injEq] at h
    obtain ⟨rfl, rfl⟩ := h
    rw [e1, e2]
    obtain ⟨k, hk⟩ := pow64_eq (wrap64 (rd l1 0)) (wrap64 (rd l2 0)) c3 (by unfold wrap64; omega)
    exact decPow64 k ad1 ad2 c1 c2 _ _ _ w g1 g2 hk
  · split at h
    · next c =>
      obtain ⟨rfl, e1, e2, h1, h2, c3⟩ := c
      obtain ⟨ad1, rfl, g1⟩ := cell0' hr1 e1
      obtain ⟨ad2, rfl, g2⟩ := cell0' hr2 e2
      simp only [Option.some.injEq, Prod.mk.injEq] at h
      obtain ⟨rfl, rfl⟩ := h
      rw [e1, e2]
      obtain ⟨k, hk⟩ := pow32_eq (wrap32 (rd l1 0)) (wrap32 (rd l2 0)) c3 (by unfold wrap32; omega)
      exact decPow32 k ad1 ad2 c1 c2 _ _ _ w g1 g2 h1 h2 hk
    · cases h
end Go.Proofs.Ytiiicmfobljnaaa.V
