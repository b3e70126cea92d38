/- What math.Ldexp gives of 1024 + m; what spec.HalfValue gives. -/
import Derived.Test.YtmgpmmmoegjlbaaHF
import Derived.Test.YtmgpmmmoegjlbaaHP
namespace Go.Proofs.Ytmgpmmmoegjlbaa.V
open Go.RowKit
set_option linter.unusedVariables false
set_option linter.unusedSimpArgs false
theorem abs_ (x : Nat) (w : World) (hx : x < 9223372036854775808) : Calls Try.prog 35 #[.float .f64 x] w fun e w' => e = .returned (.float .f64 x) ∧ Below w.heap.size w w' := by
  have h1 := f64bits x
  have h2 := f64from (x : Int)
  have k : bits .andNot .u64 (x : Int) 9223372036854775808 = x := by
    rw [show (9223372036854775808 : Int) = ((9223372036854775808 : Nat) : Int) from rfl, u64_andNot_nat _ _ (by omega) (by omega), show 18446744073709551615 - 9223372036854775808 = 2 ^ 63 - 1 from rfl, and_low]
    omega
  go_enter Try.func35, Try.ntmps35
  go_wp2_with (first | simp only [h1] | simp only [h2])
  go_ret
  exact ⟨rfl, Below.refl _ _⟩
theorem isInf_ (x : Nat) (w : World) (hx : x < 9223372036854775808) (ho : (FloatKind.f64.format.order x 9218868437227405311 == some Ordering.gt) = false) : Calls Try.prog 30 #[.float .f64 x, .int .i64 0] w fun e w' => e = .returned (.bool false) ∧ Below w.heap.size w w' := by
  go_enter Try.func30, Try.ntmps30
  go_wp2_with (go_at_call 35; refine (abs_ x _ hx).mono ?_; rintro e w1 ⟨rfl, hb1⟩)
  go_ret
  exact ⟨rfl, hb1⟩
theorem isNaN_ (x : Nat) (w : World) (ho : (FloatKind.f64.format.order x x != some Ordering.eq) = false) : Calls Try.prog 31 #[.float .f64 x] w fun e w' => e = .returned (.bool false) ∧ Below w.heap.size w w' := by
  go_enter Try.func31, Try.ntmps31
  go_wp2
  go_ret
  exact ⟨rfl, Below.refl _ _⟩
theorem normalize_ (x : Nat) (w : World) (hx : x < 9223372036854775808) (ho : (FloatKind.f64.format.order x 4503599627370496 == some Ordering.lt) = false) : Calls Try.prog 32 #[.float .f64 x] w fun e w' => e = .returned (.tuple #[.float .f64 x, .int .i64 0]) ∧ Below w.heap.size w w' := by
  go_enter Try.func32, Try.ntmps32
  go_wp2_with (go_at_call 35; refine (abs_ x _ hx).mono ?_; rintro e w1 ⟨rfl, hb1⟩)
  go_ret2
  exact ⟨rfl, hb1⟩
theorem ldexp0 (k : Int) (w : World) : Calls Try.prog 27 #[.float .f64 0, .int .i64 k] w fun e w' => e = .returned (.float .f64 0) ∧ Below w.heap.size w w' := by
  have ho : (FloatKind.f64.format.order 0 0 == some Ordering.eq) = true := by decide +kernel
  go_enter Try.func27, Try.ntmps27
  go_wp2
  go_ret
  exact ⟨rfl, Below.refl _ _⟩
theorem ldexp_ (x : Nat) (k : Int) (E F y r : Nat) (w : World) (hx : x < 9223372036854775808) (hk : -1000 ≤ k) (hk2 : k ≤ 100) (hE : (E : Int) ≤ 2000) (hF : F < 4503599627370496)
    (o0 : (FloatKind.f64.format.order x 0 == some Ordering.eq) = false)
    (o1 : (FloatKind.f64.format.order x 9218868437227405311 == some Ordering.gt) = false)
    (o2 : (FloatKind.f64.format.order x x != some Ordering.eq) = false)
    (o3 : (FloatKind.f64.format.order x 4503599627370496 == some Ordering.lt) = false)
    (b1 : bits .and .i64 ((x : Int) / 4503599627370496) 2047 = 1033)
    (b2 : bits .andNot .u64 (x : Int) 9218868437227405312 = F)
    (b3 : bits .or .u64 (F : Int) ((k + 10 + 1023) * 4503599627370496) = y)
    (hm : floatBits .mul .f64 4607182418800017408 y = some r) :
    Calls Try.prog 27 #[.float .f64 x, .int .i64 k] w fun e w' => e = .returned (.float .f64 r) ∧ Below w.heap.size w w' := by
  have h1 := f64bits x
  have h2 := f64from (y : Int)
  have hmul := fun t w => run_float_arith (P := Try.prog) w .mul t .f64 4607182418800017408 y r hm
  go_enter Try.func27, Try.ntmps27
  go_wp2_with (first | simp only [h1] | simp only [h2] | (go_at_call 30; refine (isInf_ x _ hx o1).mono ?_; rintro e w1 ⟨rfl, hb1⟩) | (go_at_call 31; refine (isNaN_ x _ o2).mono ?_; rintro e w2 ⟨rfl, hb2⟩) | (go_at_call 32; refine (normalize_ x _ hx o3).mono ?_; rintro e w3 ⟨rfl, hb3⟩))
  go_ret
  exact ⟨rfl, (hb1.trans (hb2.mono hb1.size)).trans (hb3.mono (Nat.le_trans hb1.size hb2.size))⟩
theorem Ldexp0 (k : Int) (w : World) : Calls Try.prog 14 #[.float .f64 0, .int .i64 k] w fun e w' => e = .returned (.float .f64 0) ∧ Below w.heap.size w w' := by
  go_enter Try.func14, Try.ntmps14
  go_wp2_with (go_at_call 27; refine (ldexp0 k _).mono ?_; rintro e w1 ⟨rfl, hb1⟩)
  go_ret
  exact ⟨rfl, hb1⟩
theorem ord_chk : ((List.range 1024).all fun m => (Ieee.double.order (lm m) 0 == some Ordering.gt) && (Ieee.double.order (lm m) 9218868437227405311 == some Ordering.lt) && (Ieee.double.order (lm m) (lm m) == some Ordering.eq) && (Ieee.double.order (lm m) 4503599627370496 == some Ordering.gt)) = true := by decide +kernel
theorem ord_lm (m : Nat) (hm : m < 1024) : Ieee.double.order (lm m) 0 = some Ordering.gt ∧ Ieee.double.order (lm m) 9218868437227405311 = some Ordering.lt ∧ Ieee.double.order (lm m) (lm m) = some Ordering.eq ∧ Ieee.double.order (lm m) 4503599627370496 = some Ordering.gt := by
  have := List.all_eq_true.mp ord_chk m (by simpa using hm)
  simp only [Bool.and_eq_true, beq_iff_eq] at this
  exact ⟨this.1.1.1, this.1.1.2, this.1.2, this.2⟩
theorem Ldexp_ (e m : Nat) (w : World) (h1 : 1 ≤ e) (h2 : e ≤ 30) (hm : m < 1024) : Calls Try.prog 14 #[.float .f64 (lm m), .int .i64 ((e : Int) - 25)] w fun e' w' => e' = .returned (.float .f64 (dw 0 (e + 1008) (4398046511104 * m))) ∧ Below w.heap.size w w' := by
  obtain ⟨q0, q1, q2, q3⟩ := ord_lm m hm
  have hx : lm m < 9223372036854775808 := by unfold lm dw; omega
  have hl : lm m = 4652218415073722368 + 4398046511104 * m := by unfold lm dw; omega
  have b1 : bits .and .i64 ((lm m : Int) / 4503599627370496) 2047 = 1033 := by
    rw [show ((lm m : Int) / 4503599627370496) = 1033 by omega]; rfl
  have b2 : bits .andNot .u64 (lm m : Int) 9218868437227405312 = ((4398046511104 * m : Nat) : Int) := by
    rw [show (9218868437227405312 : Int) = ((9218868437227405312 : Nat) : Int) from rfl, u64_andNot_nat _ _ (by omega) (by omega)]
    congr 1
    have e1 : 18446744073709551615 - 9218868437227405312 = 2 ^ 63 ||| (2 ^ 52 - 1) := by decide
    rw [e1, Nat.and_or_distrib_left, and_low]
    have e2 : lm m &&& 2 ^ 63 = 0 := by
      apply Nat.eq_of_testBit_eq
      intro i
      rw [Nat.testBit_and, Nat.testBit_two_pow, Nat.zero_testBit]
      by_cases c : 63 = i
      · subst c; rw [Nat.testBit_lt_two_pow (by omega)]; rfl
      · simp [c]
    rw [e2, Nat.zero_or]
    omega
  have b3 : bits .or .u64 ((4398046511104 * m : Nat) : Int) (((e : Int) - 25 + 10 + 1023) * 4503599627370496) = ((dw 0 (e + 1008) (4398046511104 * m) : Nat) : Int) := by
    rw [show (((e : Int) - 25 + 10 + 1023) * 4503599627370496) = ((2 ^ 52 * (e + 1008) : Nat) : Int) by omega, u64_or_nat _ _ (by omega) (by omega), Nat.or_comm, or_add _ _ 52 (by omega)]
    congr 1
    unfold dw; omega
  have hmul : floatBits .mul .f64 4607182418800017408 (dw 0 (e + 1008) (4398046511104 * m)) = some (dw 0 (e + 1008) (4398046511104 * m)) := mul_one_ 0 _ _ (by omega) (by omega) (by omega)
  have hL := fun w => ldexp_ (lm m) ((e : Int) - 25) 0 (4398046511104 * m) _ _ w hx (by omega) (by omega) (by omega) (by omega) (by show (Ieee.double.order _ _ == _) = _; rw [q0]; rfl) (by show (Ieee.double.order _ _ == _) = _; rw [q1]; rfl) (by show (Ieee.double.order _ _ != _) = _; rw [q2]; rfl) (by show (Ieee.double.order _ _ == _) = _; rw [q3]; rfl) b1 b2 b3 hmul
  clear q0 q1 q2 q3 hx hl b1 b2 b3 hmul
  have HL := Lib.hid hL
  clear hL
  go_enter Try.func14, Try.ntmps14
  go_wp2_with (go_at_call 27; refine (HL.out _).mono ?_; rintro e' w1 ⟨rfl, hb1⟩)
  go_ret
  exact ⟨rfl, hb1⟩
theorem inf_ (s : Nat) (w : World) (hs : s < 2) : Calls Try.prog 15 #[.int .i64 (if s = 1 then -1 else 1)] w fun e' w' => e' = .returned (.float .f64 (9223372036854775808 * s + 9218868437227405312)) ∧ Below w.heap.size w w' := by
  have h1 := f64from 9218868437227405312
  have h2 := f64from 18442240474082181120
  have : s = 0 ∨ s = 1 := by omega
  rcases this with rfl | rfl
  all_goals
    go_enter Try.func15, Try.ntmps15
    go_wp2_with (first | simp only [h1] | simp only [h2])
    go_ret
    exact ⟨rfl, Below.refl _ _⟩
theorem i_exp (s e m : Nat) (hs : s < 2) (he : e < 32) (hm : m < 1024) : bits .and .i64 (wrap64 ((hb s e m : Int) / 1024)) 31 = e := by
  have h1 := hb_exp s e m he hm
  have h2 : wrap64 ((hb s e m : Int) / 1024) = ((32 * s + e : Nat) : Int) := by
    rw [show ((hb s e m : Int) / 1024) = ((hb s e m / 1024 : Nat) : Int) by omega, h1]; unfold wrap64; omega
  rw [h2]
  have c : ∀ s < 2, ∀ e < 32, bits .and .i64 ((32 * s + e : Nat) : Int) 31 = e := by decide +kernel
  exact c s hs e he
theorem s_test0 (e m : Nat) (he : e < 32) (hm : m < 1024) : (((hb 0 e m : Nat) : Int) / 32768 == 1) = false := by
  have := hb_sign 0 e m he hm
  rw [show ((hb 0 e m : Int) / 32768) = ((hb 0 e m / 32768 : Nat) : Int) by omega, this]; rfl
theorem s_test1 (e m : Nat) (he : e < 32) (hm : m < 1024) : (((hb 1 e m : Nat) : Int) / 32768 == 1) = true := by
  have := hb_sign 1 e m he hm
  rw [show ((hb 1 e m : Int) / 32768) = ((hb 1 e m / 32768 : Nat) : Int) by omega, this]; rfl
theorem value0 (s : Nat) (w : World) (hs : s < 2) : Calls Try.prog 8 #[.int .u16 (hb s 0 0)] w fun e' w' => e' = .returned (.float .f64 (9223372036854775808 * s)) ∧ Below w.heap.size w w' := by
  have f2 := i_exp s 0 0 hs (by omega) (by omega)
  have f3 := b_frac s 0 0 hs (by omega) (by omega)
  have f4 : floatOfInt FloatKind.f64 0 = 0 := by decide +kernel
  have : s = 0 ∨ s = 1 := by omega
  rcases this with rfl | rfl
  · have f1 := s_test0 0 0 (by omega) (by omega)
    have hmul := fun t w => run_float_arith (P := Try.prog) w .mul t .f64 4607182418800017408 0 0 (by decide +kernel)
    go_enter Try.func8, Try.ntmps8
    go_wp2_with (go_at_call 14; refine (Ldexp0 _ _).mono ?_; rintro e' w1 ⟨rfl, hb1⟩)
    go_ret
    exact ⟨rfl, hb1⟩
  · have f1 := s_test1 0 0 (by omega) (by omega)
    have hmul := fun t w => run_float_arith (P := Try.prog) w .mul t .f64 13830554455654793216 0 9223372036854775808 (by decide +kernel)
    go_enter Try.func8, Try.ntmps8
    go_wp2_with (go_at_call 14; refine (Ldexp0 _ _).mono ?_; rintro e' w1 ⟨rfl, hb1⟩)
    go_ret
    exact ⟨rfl, hb1⟩
theorem value31 (s : Nat) (w : World) (hs : s < 2) : Calls Try.prog 8 #[.int .u16 (hb s 31 0)] w fun e' w' => e' = .returned (.float .f64 (9223372036854775808 * s + 9218868437227405312)) ∧ Below w.heap.size w w' := by
  have f2 := i_exp s 31 0 hs (by omega) (by omega)
  have f3 := b_frac s 31 0 hs (by omega) (by omega)
  have f4 : floatOfInt FloatKind.f64 0 = 0 := by decide +kernel
  have f5 : (FloatKind.f64.format.order 0 0 == some Ordering.eq) = true := by decide +kernel
  have f6 := fun w => run_convert_float_int (P := Try.prog) w 25 3 .f64 .i64 4607182418800017408 1 (by kernel_rfl) Try.underlying3 (by decide +kernel)
  have f7 := fun w => run_convert_float_int (P := Try.prog) w 25 3 .f64 .i64 13830554455654793216 (-1) (by kernel_rfl) Try.underlying3 (by decide +kernel)
  have : s = 0 ∨ s = 1 := by omega
  rcases this with rfl | rfl
  · have f1 := s_test0 31 0 (by omega) (by omega)
    have hI := fun w => inf_ 0 w (by omega)
    go_enter Try.func8, Try.ntmps8
    go_wp2_with (go_at_call 15; refine (hI _).mono ?_; rintro e' w1 ⟨rfl, hb1⟩)
    go_ret
    exact ⟨rfl, hb1⟩
  · have f1 := s_test1 31 0 (by omega) (by omega)
    have hI := fun w => inf_ 1 w (by omega)
    go_enter Try.func8, Try.ntmps8
    go_wp2_with (go_at_call 15; refine (hI _).mono ?_; rintro e' w1 ⟨rfl, hb1⟩)
    go_ret
    exact ⟨rfl, hb1⟩
theorem valueN (s e m : Nat) (w : World) (hs : s < 2) (h1 : 1 ≤ e) (h2 : e ≤ 30) (hm : m < 1024) : Calls Try.prog 8 #[.int .u16 (hb s e m)] w fun e' w' => e' = .returned (.float .f64 (dw s (e + 1008) (4398046511104 * m))) ∧ Below w.heap.size w w' := by
  have f2 := i_exp s e m hs (by omega) hm
  have f3 := b_frac s e m hs (by omega) hm
  have t0 : ((e : Int) == 0) = false := by simp; omega
  have t1 : ((e : Int) == 31) = false := by simp; omega
  have hadd := fun t w => run_float_arith (P := Try.prog) w .add t .f64 4652218415073722368 (floatOfInt .f64 (m : Int)) (lm m) (add_lm m hm)
  have hL := fun w => Ldexp_ e m w h1 h2 hm
  have : s = 0 ∨ s = 1 := by omega
  rcases this with rfl | rfl
  · have f1 := s_test0 e m (by omega) hm
    have hmul := fun t w => run_float_arith (P := Try.prog) w .mul t .f64 4607182418800017408 (dw 0 (e + 1008) (4398046511104 * m)) (dw 0 (e + 1008) (4398046511104 * m)) (mul_one_ 0 _ _ (by omega) (by omega) (by omega))
    go_enter Try.func8, Try.ntmps8
    go_wp2_with (go_at_call 14; refine (hL _).mono ?_; rintro e' w1 ⟨rfl, hb1⟩)
    go_ret
    exact ⟨rfl, hb1⟩
  · have f1 := s_test1 e m (by omega) hm
    have hmul := fun t w => run_float_arith (P := Try.prog) w .mul t .f64 13830554455654793216 (dw 0 (e + 1008) (4398046511104 * m)) (dw 1 (e + 1008) (4398046511104 * m)) (mul_mone _ _ (by omega) (by omega) (by omega))
    go_enter Try.func8, Try.ntmps8
    go_wp2_with (go_at_call 14; refine (hL _).mono ?_; rintro e' w1 ⟨rfl, hb1⟩)
    go_ret
    exact ⟨rfl, hb1⟩
end Go.Proofs.Ytmgpmmmoegjlbaa.V
