/- Halves are ordered as floats of 32 and of 64 bits alike. -/
import Derived.Test.YtmgpmmmoegjlbaaHL
namespace Go.Proofs.Ytmgpmmmoegjlbaa.V
open Ieee
set_option linter.unusedVariables false
/-- What a datum is worth: a whole number of units Q at place L; an infinity is worth more than all of them. -/
def HK (Q L : Int) (d : Datum) (k : Int) : Prop := match d with
  | .number s M i => L ≤ i ∧ signed s M (i - L).toNat = k * Q ∧ -1152921504606846976 < k ∧ k < 1152921504606846976
  | .infinity s => k = if s then -1152921504606846976 else 1152921504606846976
  | .nan _ _ => False
theorem signed_eq (s : Bool) (M u : Nat) : signed s M u = (if s then -(M : Int) else (M : Int)) * 2 ^ u := by
  unfold signed
  rw [Nat.shiftLeft_eq]
  cases s
  · simp
  · simp only [if_true]; rw [Int.neg_mul]; simp
theorem cmp_scale {A B k l P Q : Int} (hP : 0 < P) (hQ : 0 < Q) (h1 : A * P = k * Q) (h2 : B * P = l * Q) : compare A B = compare k l := by
  rcases Int.lt_trichotomy k l with h | h | h
  · have h3 : A * P < B * P := by rw [h1, h2]; exact (Int.mul_lt_mul_right hQ).mpr h
    have h4 : A < B := (Int.mul_lt_mul_right hP).mp h3
    rw [Int.compare_eq_lt.mpr h, Int.compare_eq_lt.mpr h4]
  · have h3 : A * P = B * P := by rw [h1, h2, h]
    have h4 : A = B := Int.eq_of_mul_eq_mul_right (by omega) h3
    rw [Int.compare_eq_eq.mpr h, Int.compare_eq_eq.mpr h4]
  · have h3 : B * P < A * P := by rw [h1, h2]; exact (Int.mul_lt_mul_right hQ).mpr h
    have h4 : B < A := (Int.mul_lt_mul_right hP).mp h3
    rw [Int.compare_eq_gt.mpr h, Int.compare_eq_gt.mpr h4]
theorem order_key {Q L : Int} {d1 d2 : Datum} {k1 k2 : Int} (hQ : 0 < Q) (h1 : HK Q L d1 k1) (h2 : HK Q L d2 k2) : d1.order d2 = some (compare k1 k2) := by
  cases d1 with
  | nan s f => exact absurd h1 id
  | infinity s =>
    cases d2 with
    | nan s f => exact absurd h2 id
    | infinity t =>
      simp only [HK] at h1 h2
      subst h1; subst h2
      cases s <;> cases t <;> rfl
    | number t N j =>
      simp only [HK] at h1 h2
      subst h1
      obtain ⟨_, _, h3, h4⟩ := h2
      show some (if s then Ordering.lt else Ordering.gt) = _
      congr 1
      cases s
      · exact (Int.compare_eq_gt.mpr h4).symm
      · exact (Int.compare_eq_lt.mpr h3).symm
  | number s M i =>
    cases d2 with
    | nan s f => exact absurd h2 id
    | infinity t =>
      simp only [HK] at h1 h2
      subst h2
      obtain ⟨_, _, h3, h4⟩ := h1
      show some (if t then Ordering.gt else Ordering.lt) = _
      congr 1
      cases t
      · exact (Int.compare_eq_lt.mpr h4).symm
      · exact (Int.compare_eq_gt.mpr h3).symm
    | number t N j =>
      obtain ⟨hi, e1, _, _⟩ := h1
      obtain ⟨hj, e2, _, _⟩ := h2
      show some (compare (signed s M (i - min i j).toNat) (signed t N (j - min i j).toNat)) = _
      congr 1
      have hP : (0 : Int) < 2 ^ (min i j - L).toNat := Int.pow_pos (by decide)
      refine cmp_scale hP hQ ?_ ?_
      · rw [← e1, signed_eq, signed_eq, Int.mul_assoc, ← Int.pow_add]
        congr 2; omega
      · rw [← e2, signed_eq, signed_eq, Int.mul_assoc, ← Int.pow_add]
        congr 2; omega
/-- What a half is worth. -/
def hk (s e m : Nat) : Int := if e = 31 then (if s = 1 then -1152921504606846976 else 1152921504606846976) else if e = 0 then 0 else (if s = 1 then -((1024 + m : Nat) : Int) else ((1024 + m : Nat) : Int)) * 2 ^ (e - 1)
theorem pow_b (e : Nat) (he : e ≤ 30) : (2 : Int) ^ (e - 1) ≤ 536870912 ∧ 0 < (2 : Int) ^ (e - 1) := by
  have h := Nat.pow_le_pow_right (n := 2) (by decide) (show e - 1 ≤ 29 by omega)
  have h2 : (2 : Int) ^ (e - 1) = ((2 ^ (e - 1) : Nat) : Int) := by simp
  have h3 := Nat.two_pow_pos (e - 1)
  rw [h2]
  constructor
  · have : 2 ^ 29 = 536870912 := by decide
    omega
  · omega
theorem hk_b (s e m : Nat) (h2 : e ≤ 30) (hm : m < 1024) : -1152921504606846976 < (if s = 1 then -((1024 + m : Nat) : Int) else ((1024 + m : Nat) : Int)) * 2 ^ (e - 1) ∧ (if s = 1 then -((1024 + m : Nat) : Int) else ((1024 + m : Nat) : Int)) * 2 ^ (e - 1) < 1152921504606846976 := by
  obtain ⟨p1, p2⟩ := pow_b e h2
  generalize (2 : Int) ^ (e - 1) = p at *
  have k0 : ((1024 + m : Nat) : Int) * p ≤ 2047 * 536870912 := Int.mul_le_mul (by omega) p1 (by omega) (by omega)
  have k1 : 0 ≤ ((1024 + m : Nat) : Int) * p := Int.mul_nonneg (by omega) (by omega)
  split
  · rw [Int.neg_mul]; omega
  · omega
theorem key_d (s e m : Nat) (hs : s < 2) (he : e < 32) (hm : m < 1024) (hu : usual e m = true) : HK (2 ^ 1050) (-1074) (double.read (v64 s e m)) (hk s e m) := by
  have hs' : s = 0 ∨ s = 1 := by omega
  by_cases c0 : e = 0
  · subst c0
    obtain rfl : m = 0 := by simpa [usual] using hu
    have hr : double.read (v64 s 0 0) = .number (decide (s = 1)) 0 (-1074) := by rcases hs' with rfl | rfl <;> decide +kernel
    rw [hr]
    refine ⟨by omega, ?_, by simp [hk], by simp [hk]⟩
    rw [show hk s 0 0 = 0 by simp [hk], Int.zero_mul, signed_eq, show (if decide (s = 1) = true then -((0 : Nat) : Int) else ((0 : Nat) : Int)) = 0 by split <;> rfl, Int.zero_mul]
  · by_cases c1 : e = 31
    · subst c1
      obtain rfl : m = 0 := by simpa [usual] using hu
      have hr : double.read (v64 s 31 0) = .infinity (decide (s = 1)) := by rcases hs' with rfl | rfl <;> decide +kernel
      rw [hr]
      show hk s 31 0 = _
      rcases hs' with rfl | rfl <;> rfl
    · have hv : v64 s e m = dw s (e + 1008) (4398046511104 * m) := by unfold v64 r64; rw [if_neg c0, if_neg c1]
      have hk' : hk s e m = (if s = 1 then -((1024 + m : Nat) : Int) else ((1024 + m : Nat) : Int)) * 2 ^ (e - 1) := by unfold hk; rw [if_neg c1, if_neg c0]
      rw [hv, read_dw s (e + 1008) (4398046511104 * m) hs (by omega) (by omega) (by omega), hk']
      refine ⟨by omega, ?_, (hk_b s e m (by omega) hm).1, (hk_b s e m (by omega) hm).2⟩
      rw [signed_eq, show (-1074 + ((e + 1008 - 1 : Nat) : Int) - -1074).toNat = e + 1007 by omega, Int.mul_assoc, ← Int.pow_add]
      have hp : (2 : Int) ^ (42 + (e + 1007)) = 2 ^ 42 * 2 ^ (e + 1007) := Int.pow_add _ _ _
      rw [show e - 1 + 1050 = 42 + (e + 1007) by omega, hp, ← Int.mul_assoc]
      have h42 : (2 : Int) ^ 42 = 4398046511104 := by decide
      have hX : (if decide (s = 1) = true then -((4503599627370496 + 4398046511104 * m : Nat) : Int) else ((4503599627370496 + 4398046511104 * m : Nat) : Int)) = (if s = 1 then -((1024 + m : Nat) : Int) else ((1024 + m : Nat) : Int)) * 4398046511104 := by
        clear hu he c0 c1 hk'
        rcases hs' with rfl | rfl
        · simp only [Nat.zero_ne_one, decide_false, Bool.false_eq_true, if_false]; omega
        · simp only [decide_true, if_true]; omega
      rw [hX, h42]
theorem key_s (s e m : Nat) (hs : s < 2) (he : e < 32) (hm : m < 1024) (hu : usual e m = true) : HK (2 ^ 125) (-149) (single.read (h32 s e m)) (hk s e m) := by
  have hs' : s = 0 ∨ s = 1 := by omega
  by_cases c0 : e = 0
  · subst c0
    obtain rfl : m = 0 := by simpa [usual] using hu
    have hr : single.read (h32 s 0 0) = .number (decide (s = 1)) 0 (-149) := by rcases hs' with rfl | rfl <;> decide +kernel
    rw [hr]
    refine ⟨by omega, ?_, by simp [hk], by simp [hk]⟩
    rw [show hk s 0 0 = 0 by simp [hk], Int.zero_mul, signed_eq, show (if decide (s = 1) = true then -((0 : Nat) : Int) else ((0 : Nat) : Int)) = 0 by split <;> rfl, Int.zero_mul]
  · by_cases c1 : e = 31
    · subst c1
      obtain rfl : m = 0 := by simpa [usual] using hu
      have hr : single.read (h32 s 31 0) = .infinity (decide (s = 1)) := by rcases hs' with rfl | rfl <;> decide +kernel
      rw [hr]
      show hk s 31 0 = _
      rcases hs' with rfl | rfl <;> rfl
    · have hw : h32 s e m = 2147483648 * s + (8388608 * (e + 112) + 8192 * m) := by unfold h32 r32; rw [if_neg c0, if_neg c1]; omega
      have hk' : hk s e m = (if s = 1 then -((1024 + m : Nat) : Int) else ((1024 + m : Nat) : Int)) * 2 ^ (e - 1) := by unfold hk; rw [if_neg c1, if_neg c0]
      rw [hw, read_sw s (e + 112) (8192 * m) hs (by omega) (by omega) (by omega), hk']
      refine ⟨by omega, ?_, (hk_b s e m (by omega) hm).1, (hk_b s e m (by omega) hm).2⟩
      rw [signed_eq, show (-149 + ((e + 112 - 1 : Nat) : Int) - -149).toNat = e + 111 by omega, Int.mul_assoc, ← Int.pow_add]
      have hp : (2 : Int) ^ (13 + (e + 111)) = 2 ^ 13 * 2 ^ (e + 111) := Int.pow_add _ _ _
      rw [show e - 1 + 125 = 13 + (e + 111) by omega, hp, ← Int.mul_assoc]
      have h42 : (2 : Int) ^ 13 = 8192 := by decide
      have hX : (if decide (s = 1) = true then -((8388608 + 8192 * m : Nat) : Int) else ((8388608 + 8192 * m : Nat) : Int)) = (if s = 1 then -((1024 + m : Nat) : Int) else ((1024 + m : Nat) : Int)) * 8192 := by
        clear hu he c0 c1 hk'
        rcases hs' with rfl | rfl
        · simp only [Nat.zero_ne_one, decide_false, Bool.false_eq_true, if_false]; omega
        · simp only [decide_true, if_true]; omega
      rw [hX, h42]
theorem order_d (s e m s' e' m' : Nat) (hs : s < 2) (he : e < 32) (hm : m < 1024) (hu : usual e m = true) (hs' : s' < 2) (he' : e' < 32) (hm' : m' < 1024) (hu' : usual e' m' = true) :
    double.order (v64 s e m) (v64 s' e' m') = some (compare (hk s e m) (hk s' e' m')) := order_key (Int.pow_pos (by decide)) (key_d s e m hs he hm hu) (key_d s' e' m' hs' he' hm' hu')
theorem order_s (s e m s' e' m' : Nat) (hs : s < 2) (he : e < 32) (hm : m < 1024) (hu : usual e m = true) (hs' : s' < 2) (he' : e' < 32) (hm' : m' < 1024) (hu' : usual e' m' = true) :
    single.order (h32 s e m) (h32 s' e' m') = some (compare (hk s e m) (hk s' e' m')) := order_key (Int.pow_pos (by decide)) (key_s s e m hs he hm hu) (key_s s' e' m' hs' he' hm' hu')
end Go.Proofs.Ytmgpmmmoegjlbaa.V
