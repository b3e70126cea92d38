import Derived.Test.YtiiicmfobljnaaaV0
namespace Go.Proofs.Ytiiicmfobljnaaa.V
open Go.RowKit Go.Proofs.YtiiicmfobljnaaaW.PrintWords Go.Proofs.YtiiicmfobljnaaaW.PrintLast Go.Proofs.YtiiicmfobljnaaaW.PrintMore
attribute [local go_sem] max2_int min2_int max_two min_two max_three min_three max_four min_four
set_option linter.unusedVariables false
set_option linter.unusedSimpArgs false

/-! ### decimal_Decimal32_Div: function 24 -/
def decimal_Decimal32_Div.f (a0 : Int) (a1 : Int) : Option (Int × Int) := if a1 = 0 then (none) else (some (wrap32 (Int.tdiv a0 a1), Int.tmod a0 a1))
set_option maxHeartbeats 8000000 in
set_option maxRecDepth 100000 in
theorem decimal_Decimal32_Div.calls (a0 : Int) (a1 : Int) (r1 : Int) (r2 : Int) (w : World) (h : decimal_Decimal32_Div.f a0 a1 = some (r1, r2)) :
  Calls Try.prog 24 #[.int .i32 a0, .int .i32 a1] w fun e w' => e = .returned (.tuple #[.int .i32 r1, .int .i32 r2]) ∧ Drawn0 w w' := by
 have H : (if a1 = 0 then (none) else (some (wrap32 (Int.tdiv a0 a1), Int.tmod a0 a1))) = some (r1, r2) := h
 clear h
 by_cases c3 : a1 = 0
 ·
  rw [if_pos c3] at H
  exact absurd H (by simp)
 ·
  rw [if_neg c3] at H
  have c3b0 : (a1 == 0) = false := beq_eq_false_iff_ne.mpr c3
  have c3b1 : (a1 != 0) = true := bne_iff_ne.mpr c3
  simp only [Option.some.injEq, Prod.mk.injEq] at H
  obtain ⟨rfl, rfl⟩ := H
  go_enter Try.func24, Try.ntmps24
  go_wp2
  repeat (go_quiet (fail); try go_wp2)
  go_ret2
  exact ⟨by first | rfl | (simp; done) | (simp [*]; done), by repeat (first | exact Drawn0.refl _ | apply Drawn0.step)⟩

/-! ### decimal_Decimal64_Div: function 25 -/
def decimal_Decimal64_Div.f (a0 : Int) (a1 : Int) : Option (Int × Int) := if a1 = 0 then (none) else (some (wrap64 (Int.tdiv a0 a1), Int.tmod a0 a1))
set_option maxHeartbeats 8000000 in
set_option maxRecDepth 100000 in
theorem decimal_Decimal64_Div.calls (a0 : Int) (a1 : Int) (r1 : Int) (r2 : Int) (w : World) (h : decimal_Decimal64_Div.f a0 a1 = some (r1, r2)) :
  Calls Try.prog 25 #[.int .i64 a0, .int .i64 a1] w fun e w' => e = .returned (.tuple #[.int .i64 r1, .int .i64 r2]) ∧ Drawn0 w w' := by
 have H : (if a1 = 0 then (none) else (some (wrap64 (Int.tdiv a0 a1), Int.tmod a0 a1))) = some (r1, r2) := h
 clear h
 by_cases c3 : a1 = 0
 ·
  rw [if_pos c3] at H
  exact absurd H (by simp)
 ·
  rw [if_neg c3] at H
  have c3b0 : (a1 == 0) = false := beq_eq_false_iff_ne.mpr c3
  have c3b1 : (a1 != 0) = true := bne_iff_ne.mpr c3
  simp only [Option.some.injEq, Prod.mk.injEq] at H
  obtain ⟨rfl, rfl⟩ := H
  go_enter Try.func25, Try.ntmps25
  go_wp2
  repeat (go_quiet (fail); try go_wp2)
  go_ret2
  exact ⟨by first | rfl | (simp; done) | (simp [*]; done), by repeat (first | exact Drawn0.refl _ | apply Drawn0.step)⟩

/-! ### decimal_intPow_int32: function 74 -/
def decimal_intPow_int32.l0 : Nat → Int → Int → Int → Option (Int)
 | 0, _, _, _ => none
 | k + 1, x0, x1, x5 => if (Go.bits .and .i32 x1 1) = 1 then (if (x1 / 2) = 0 then (some (wrap32 (x5 * x0))) else (decimal_intPow_int32.l0 k (wrap32 (x0 * x0)) (x1 / 2) (wrap32 (x5 * x0)))) else (if (x1 / 2) = 0 then (some x5) else (decimal_intPow_int32.l0 k (wrap32 (x0 * x0)) (x1 / 2) x5))
def decimal_intPow_int32.f (k : Nat) (a0 : Int) (a1 : Int) : Option (Int) := decimal_intPow_int32.l0 k a0 a1 1
set_option maxHeartbeats 8000000 in
set_option maxRecDepth 100000 in
theorem decimal_intPow_int32.calls (k : Nat) (a0 : Int) (a1 : Int) (r : Int) (w : World) (h : decimal_intPow_int32.f k a0 a1 = some r) :
  Calls Try.prog 74 #[.int .i32 a0, .int .i32 a1] w fun e w' => e = .returned (.int .i32 r) ∧ Drawn0 w w' := by
 have H : (decimal_intPow_int32.l0 k a0 a1 1) = some r := h
 clear h
 have H' := a0_ H
 clear H
 go_enter Try.func74, Try.ntmps74
 go_wp2
 go_loopg [0, 1, 5] k (fun kq v0 v1 v5 w' => ∃ (x0_1 : Int) (x1_1 : Int) (x5_1 : Int), v0 = .int .i32 x0_1 ∧ v1 = .int .i32 x1_1 ∧ v5 = .int .i32 x5_1 ∧ Aside0 (decimal_intPow_int32.l0 kq x0_1 x1_1 x5_1 = some r) ∧ Aside0 (kq ≤ k) ∧ Drawn0 w w')
 case atStart => exact ⟨(a0), (a1), (1), (by first | rfl | (simp; done) | (simp [*]; done)), (by first | rfl | (simp; done) | (simp [*]; done)), (by first | rfl | (simp; done) | (simp [*]; done)), H', ⟨Nat.le_refl _⟩, by repeat (first | exact Drawn0.refl _ | apply Drawn0.step)⟩
 case round =>
  clear H'
  try clear p2
  obtain ⟨x0_1, x1_1, x5_1, rfl, rfl, rfl, HA, HK1, ⟨m1, rfl⟩⟩ := hrel
  cases gk with
  | zero => exact absurd HA.out (by simp [decimal_intPow_int32.l0])
  | succ k1 =>
   have H := HA.out
   clear HA
   simp only [decimal_intPow_int32.l0] at H
   by_cases c3 : (Go.bits .and .i32 x1_1 1) = 1
   ·
    rw [if_pos c3] at H
    have c3b0 : ((Go.bits .and .i32 x1_1 1) == 1) = true := beq_iff_eq.mpr c3
    have c3b1 : ((Go.bits .and .i32 x1_1 1) != 1) = false := bne_eq_false_iff_eq.mpr c3
    clear c3
    by_cases c4 : (x1_1 / 2) = 0
    ·
     rw [if_pos c4] at H
     have c4b0 : ((x1_1 / 2) == 0) = true := beq_iff_eq.mpr c4
     have c4b1 : ((x1_1 / 2) != 0) = false := bne_eq_false_iff_eq.mpr c4
     clear c4
     obtain rfl := o1_ H
     go_wp2
     go_ret
     exact ⟨by first | rfl | (simp; done) | (simp [*]; done), by repeat (first | exact Drawn0.refl _ | apply Drawn0.step)⟩
    ·
     rw [if_neg c4] at H
     have c4b0 : ((x1_1 / 2) == 0) = false := beq_eq_false_iff_ne.mpr c4
     have c4b1 : ((x1_1 / 2) != 0) = true := bne_iff_ne.mpr c4
     have H' := a0_ H
     clear H
     go_wp2
     go_roundg k1
     case measure => have := HK1.out; omega
     case rel => exact ⟨(wrap32 (x0_1 * x0_1)), (x1_1 / 2), (wrap32 (x5_1 * x0_1)), (by first | rfl | (simp; done) | (simp [*]; done)), (by first | rfl | (simp; done) | (simp [*]; done)), (by first | rfl | (simp; done) | (simp [*]; done)), H', ⟨by have := HK1.out; omega⟩, by repeat (first | exact Drawn0.refl _ | apply Drawn0.step)⟩
   ·
    rw [if_neg c3] at H
    have c3b0 : ((Go.bits .and .i32 x1_1 1) == 1) = false := beq_eq_false_iff_ne.mpr c3
    have c3b1 : ((Go.bits .and .i32 x1_1 1) != 1) = true := bne_iff_ne.mpr c3
    by_cases c5 : (x1_1 / 2) = 0
    ·
     rw [if_pos c5] at H
     have c5b0 : ((x1_1 / 2) == 0) = true := beq_iff_eq.mpr c5
     have c5b1 : ((x1_1 / 2) != 0) = false := bne_eq_false_iff_eq.mpr c5
     clear c5
     obtain rfl := o1_ H
     go_wp2
     go_ret
     exact ⟨by first | rfl | (simp; done) | (simp [*]; done), by repeat (first | exact Drawn0.refl _ | apply Drawn0.step)⟩
    ·
     rw [if_neg c5] at H
     have c5b0 : ((x1_1 / 2) == 0) = false := beq_eq_false_iff_ne.mpr c5
     have c5b1 : ((x1_1 / 2) != 0) = true := bne_iff_ne.mpr c5
     have H' := a0_ H
     clear H
     go_wp2
     go_roundg k1
     case measure => have := HK1.out; omega
     case rel => exact ⟨(wrap32 (x0_1 * x0_1)), (x1_1 / 2), (x5_1), (by first | rfl | (simp; done) | (simp [*]; done)), (by first | rfl | (simp; done) | (simp [*]; done)), (by first | rfl | (simp; done) | (simp [*]; done)), H', ⟨by have := HK1.out; omega⟩, by repeat (first | exact Drawn0.refl _ | apply Drawn0.step)⟩

/-! ### decimal_intPow_int64: function 75 -/
def decimal_intPow_int64.l0 : Nat → Int → Int → Int → Option (Int)
 | 0, _, _, _ => none
 | k + 1, x0, x1, x5 => if (Go.bits .and .i64 x1 1) = 1 then (if (x1 / 2) = 0 then (some (wrap64 (x5 * x0))) else (decimal_intPow_int64.l0 k (wrap64 (x0 * x0)) (x1 / 2) (wrap64 (x5 * x0)))) else (if (x1 / 2) = 0 then (some x5) else (decimal_intPow_int64.l0 k (wrap64 (x0 * x0)) (x1 / 2) x5))
def decimal_intPow_int64.f (k : Nat) (a0 : Int) (a1 : Int) : Option (Int) := decimal_intPow_int64.l0 k a0 a1 1
set_option maxHeartbeats 8000000 in
set_option maxRecDepth 100000 in
theorem decimal_intPow_int64.calls (k : Nat) (a0 : Int) (a1 : Int) (r : Int) (w : World) (h : decimal_intPow_int64.f k a0 a1 = some r) :
  Calls Try.prog 75 #[.int .i64 a0, .int .i64 a1] w fun e w' => e = .returned (.int .i64 r) ∧ Drawn0 w w' := by
 have H : (decimal_intPow_int64.l0 k a0 a1 1) = some r := h
 clear h
 have H' := a0_ H
 clear H
 go_enter Try.func75, Try.ntmps75
 go_wp2
 go_loopg [0, 1, 5] k (fun kq v0 v1 v5 w' => ∃ (x0_1 : Int) (x1_1 : Int) (x5_1 : Int), v0 = .int .i64 x0_1 ∧ v1 = .int .i64 x1_1 ∧ v5 = .int .i64 x5_1 ∧ Aside0 (decimal_intPow_int64.l0 kq x0_1 x1_1 x5_1 = some r) ∧ Aside0 (kq ≤ k) ∧ Drawn0 w w')
 case atStart => exact ⟨(a0), (a1), (1), (by first | rfl | (simp; done) | (simp [*]; done)), (by first | rfl | (simp; done) | (simp [*]; done)), (by first | rfl | (simp; done) | (simp [*]; done)), H', ⟨Nat.le_refl _⟩, by repeat (first | exact Drawn0.refl _ | apply Drawn0.step)⟩
 case round =>
  clear H'
  try clear p2
  obtain ⟨x0_1, x1_1, x5_1, rfl, rfl, rfl, HA, HK1, ⟨m1, rfl⟩⟩ := hrel
  cases gk with
  | zero => exact absurd HA.out (by simp [decimal_intPow_int64.l0])
  | succ k1 =>
   have H := HA.out
   clear HA
   simp only [decimal_intPow_int64.l0] at H
   by_cases c3 : (Go.bits .and .i64 x1_1 1) = 1
   ·
    rw [if_pos c3] at H
    have c3b0 : ((Go.bits .and .i64 x1_1 1) == 1) = true := beq_iff_eq.mpr c3
    have c3b1 : ((Go.bits .and .i64 x1_1 1) != 1) = false := bne_eq_false_iff_eq.mpr c3
    clear c3
    by_cases c4 : (x1_1 / 2) = 0
    ·
     rw [if_pos c4] at H
     have c4b0 : ((x1_1 / 2) == 0) = true := beq_iff_eq.mpr c4
     have c4b1 : ((x1_1 / 2) != 0) = false := bne_eq_false_iff_eq.mpr c4
     clear c4
     obtain rfl := o1_ H
     go_wp2
     go_ret
     exact ⟨by first | rfl | (simp; done) | (simp [*]; done), by repeat (first | exact Drawn0.refl _ | apply Drawn0.step)⟩
    ·
     rw [if_neg c4] at H
     have c4b0 : ((x1_1 / 2) == 0) = false := beq_eq_false_iff_ne.mpr c4
     have c4b1 : ((x1_1 / 2) != 0) = true := bne_iff_ne.mpr c4
     have H' := a0_ H
     clear H
     go_wp2
     go_roundg k1
     case measure => have := HK1.out; omega
     case rel => exact ⟨(wrap64 (x0_1 * x0_1)), (x1_1 / 2), (wrap64 (x5_1 * x0_1)), (by first | rfl | (simp; done) | (simp [*]; done)), (by first | rfl | (simp; done) | (simp [*]; done)), (by first | rfl | (simp; done) | (simp [*]; done)), H', ⟨by have := HK1.out; omega⟩, by repeat (first | exact Drawn0.refl _ | apply Drawn0.step)⟩
   ·
    rw [if_neg c3] at H
    have c3b0 : ((Go.bits .and .i64 x1_1 1) == 1) = false := beq_eq_false_iff_ne.mpr c3
    have c3b1 : ((Go.bits .and .i64 x1_1 1) != 1) = true := bne_iff_ne.mpr c3
    by_cases c5 : (x1_1 / 2) = 0
    ·
     rw [if_pos c5] at H
     have c5b0 : ((x1_1 / 2) == 0) = true := beq_iff_eq.mpr c5
     have c5b1 : ((x1_1 / 2) != 0) = false := bne_eq_false_iff_eq.mpr c5
     clear c5
     obtain rfl := o1_ H
     go_wp2
     go_ret
     exact ⟨by first | rfl | (simp; done) | (simp [*]; done), by repeat (first | exact Drawn0.refl _ | apply Drawn0.step)⟩
    ·
     rw [if_neg c5] at H
     have c5b0 : ((x1_1 / 2) == 0) = false := beq_eq_false_iff_ne.mpr c5
     have c5b1 : ((x1_1 / 2) != 0) = true := bne_iff_ne.mpr c5
     have H' := a0_ H
     clear H
     go_wp2
     go_roundg k1
     case measure => have := HK1.out; omega
     case rel => exact ⟨(wrap64 (x0_1 * x0_1)), (x1_1 / 2), (x5_1), (by first | rfl | (simp; done) | (simp [*]; done)), (by first | rfl | (simp; done) | (simp [*]; done)), (by first | rfl | (simp; done) | (simp [*]; done)), H', ⟨by have := HK1.out; omega⟩, by repeat (first | exact Drawn0.refl _ | apply Drawn0.step)⟩

/-! ### decimal_Decimal32_Pow: function 33 -/
def decimal_Decimal32_Pow.f (k : Nat) (a0 : Int) (a1 : Int) : Option (Int) := (decimal_intPow_int32.f k a0 a1).bind fun t236 => (some t236)
set_option maxHeartbeats 8000000 in
set_option maxRecDepth 100000 in
theorem decimal_Decimal32_Pow.calls (k : Nat) (a0 : Int) (a1 : Int) (r : Int) (w : World) (h : decimal_Decimal32_Pow.f k a0 a1 = some r) :
  Calls Try.prog 33 #[.int .i32 a0, .int .i32 a1] w fun e w' => e = .returned (.int .i32 r) ∧ Drawn0 w w' := by
 have H : ((decimal_intPow_int32.f k a0 a1).bind fun t236 => (some t236)) = some r := h
 clear h
 replace H := Option.bind_eq_some_iff.mp H
 obtain ⟨t236, A30, H⟩ := H
 replace H : (some t236) = some r := H
 have A3 := a0_ A30
 clear A30
 obtain rfl := o1_ H
 go_enter Try.func33, Try.ntmps33
 go_wp2_with (first | ((with_reducible refine gate_callee (f := 74) rfl ?_); refine goesL_ (some 7) rfl rfl Try.func74 (by kernel_rfl) rfl #[.int .i32 a0, .int .i32 a1] rfl (by (try simp only [List.map_toArray, List.map_cons, List.map_nil]); first | done | rfl | (simp only [List.length_drop, List.length_take]; rfl)) ?_; (with_reducible refine (decimal_intPow_int32.calls k a0 a1 t236 _ A3.out).mono ?_); rintro e w' ⟨rfl, ⟨nd, rfl⟩⟩; refine ⟨_, rfl, ?_⟩))
 go_ret
 exact ⟨by first | rfl | (simp; done) | (simp [*]; done), by repeat (first | exact Drawn0.refl _ | apply Drawn0.step)⟩

/-! ### decimal_Decimal64_Pow: function 34 -/
def decimal_Decimal64_Pow.f (k : Nat) (a0 : Int) (a1 : Int) : Option (Int) := (decimal_intPow_int64.f k a0 a1).bind fun t237 => (some t237)
set_option maxHeartbeats 8000000 in
set_option maxRecDepth 100000 in
theorem decimal_Decimal64_Pow.calls (k : Nat) (a0 : Int) (a1 : Int) (r : Int) (w : World) (h : decimal_Decimal64_Pow.f k a0 a1 = some r) :
  Calls Try.prog 34 #[.int .i64 a0, .int .i64 a1] w fun e w' => e = .returned (.int .i64 r) ∧ Drawn0 w w' := by
 have H : ((decimal_intPow_int64.f k a0 a1).bind fun t237 => (some t237)) = some r := h
 clear h
 replace H := Option.bind_eq_some_iff.mp H
 obtain ⟨t237, A30, H⟩ := H
 replace H : (some t237) = some r := H
 have A3 := a0_ A30
 clear A30
 obtain rfl := o1_ H
 go_enter Try.func34, Try.ntmps34
 go_wp2_with (first | ((with_reducible refine gate_callee (f := 75) rfl ?_); refine goesL_ (some 7) rfl rfl Try.func75 (by kernel_rfl) rfl #[.int .i64 a0, .int .i64 a1] rfl (by (try simp only [List.map_toArray, List.map_cons, List.map_nil]); first | done | rfl | (simp only [List.length_drop, List.length_take]; rfl)) ?_; (with_reducible refine (decimal_intPow_int64.calls k a0 a1 t237 _ A3.out).mono ?_); rintro e w' ⟨rfl, ⟨nd, rfl⟩⟩; refine ⟨_, rfl, ?_⟩))
 go_ret
 exact ⟨by first | rfl | (simp; done) | (simp [*]; done), by repeat (first | exact Drawn0.refl _ | apply Drawn0.step)⟩

-- GIVEN impl_DecPow: function 13

/-! ### decimal_Decimal32_Sub: function 41 -/
def decimal_Decimal32_Sub.f (a0 : Int) (a1 : Int) : Option (Int) := some (wrap32 (a0 - a1))
set_option maxHeartbeats 8000000 in
set_option maxRecDepth 100000 in
theorem decimal_Decimal32_Sub.calls (a0 : Int) (a1 : Int) (r : Int) (w : World) (h : decimal_Decimal32_Sub.f a0 a1 = some r) :
  Calls Try.prog 41 #[.int .i32 a0, .int .i32 a1] w fun e w' => e = .returned (.int .i32 r) ∧ Drawn0 w w' := by
 have H : (some (wrap32 (a0 - a1))) = some r := h
 clear h
 obtain rfl := o1_ H
 go_enter Try.func41, Try.ntmps41
 go_wp2
 go_ret
 exact ⟨by first | rfl | (simp; done) | (simp [*]; done), by repeat (first | exact Drawn0.refl _ | apply Drawn0.step)⟩

/-! ### decimal_Decimal64_Sub: function 42 -/
def decimal_Decimal64_Sub.f (a0 : Int) (a1 : Int) : Option (Int) := some (wrap64 (a0 - a1))
set_option maxHeartbeats 8000000 in
set_option maxRecDepth 100000 in
theorem decimal_Decimal64_Sub.calls (a0 : Int) (a1 : Int) (r : Int) (w : World) (h : decimal_Decimal64_Sub.f a0 a1 = some r) :
  Calls Try.prog 42 #[.int .i64 a0, .int .i64 a1] w fun e w' => e = .returned (.int .i64 r) ∧ Drawn0 w w' := by
 have H : (some (wrap64 (a0 - a1))) = some r := h
 clear h
 obtain rfl := o1_ H
 go_enter Try.func42, Try.ntmps42
 go_wp2
 go_ret
 exact ⟨by first | rfl | (simp; done) | (simp [*]; done), by repeat (first | exact Drawn0.refl _ | apply Drawn0.step)⟩







/-! ### decimal_Decimal32_Add: function 45 -/
def decimal_Decimal32_Add.f (a0 : Int) (a1 : Int) : Option (Int) := some (wrap32 (a0 + a1))
set_option maxHeartbeats 8000000 in
set_option maxRecDepth 100000 in
theorem decimal_Decimal32_Add.calls (a0 : Int) (a1 : Int) (r : Int) (w : World) (h : decimal_Decimal32_Add.f a0 a1 = some r) :
  Calls Try.prog 45 #[.int .i32 a0, .int .i32 a1] w fun e w' => e = .returned (.int .i32 r) ∧ Drawn0 w w' := by
 have H : (some (wrap32 (a0 + a1))) = some r := h
 clear h
 obtain rfl := o1_ H
 go_enter Try.func45, Try.ntmps45
 go_wp2
 go_ret
 exact ⟨by first | rfl | (simp; done) | (simp [*]; done), by repeat (first | exact Drawn0.refl _ | apply Drawn0.step)⟩

/-! ### decimal_Decimal64_Add: function 46 -/
def decimal_Decimal64_Add.f (a0 : Int) (a1 : Int) : Option (Int) := some (wrap64 (a0 + a1))
set_option maxHeartbeats 8000000 in
set_option maxRecDepth 100000 in
theorem decimal_Decimal64_Add.calls (a0 : Int) (a1 : Int) (r : Int) (w : World) (h : decimal_Decimal64_Add.f a0 a1 = some r) :
  Calls Try.prog 46 #[.int .i64 a0, .int .i64 a1] w fun e w' => e = .returned (.int .i64 r) ∧ Drawn0 w w' := by
 have H : (some (wrap64 (a0 + a1))) = some r := h
 clear h
 obtain rfl := o1_ H
 go_enter Try.func46, Try.ntmps46
 go_wp2
 go_ret
 exact ⟨by first | rfl | (simp; done) | (simp [*]; done), by repeat (first | exact Drawn0.refl _ | apply Drawn0.step)⟩


-- GIVEN impl_DecSum: function 18


end Go.Proofs.Ytiiicmfobljnaaa.V
