import Derived.Test.YtbepnloclnjkfaaV0
namespace Go.Proofs.Ytbepnloclnjkfaa.V
open Go.RowKit Go.Proofs.YtbepnloclnjkfaaW.PrintWords Go.Proofs.YtbepnloclnjkfaaW.PrintLast Go.Proofs.YtbepnloclnjkfaaW.PrintMore
attribute [local go_sem] max2_int min2_int max_two min_two max_three min_three max_four min_four
set_option linter.unusedVariables false
set_option linter.unusedSimpArgs false

/-! ### spec_in: function 16 -/
def spec_in.l0 : Nat → Int → List Int → Int → Int → Option (Bool)
 | 0, _, _, _, _ => none
 | k + 1, x0, x7, x8, x9 => if x9 < x8 then (if 0 ≤ x9 then (if x9 < (x7.length : Int) then (if x0 = (rd x7 x9) then (some true) else (spec_in.l0 k x0 x7 x8 (wrap64 (x9 + 1)))) else (none)) else (none)) else (some false)
def spec_in.f (k : Nat) (a0 : Int) (l1 : List Int) : Option (Bool) := spec_in.l0 k a0 l1 (l1.length : Int) 0
set_option maxHeartbeats 8000000 in
set_option maxRecDepth 100000 in
theorem spec_in.calls (k : Nat) (a0 : Int) (A1 : Option Addr) (c1 : Nat) (l1 : List Int) (r : Bool) (w : World) (hr1 : Kd.C (Kd.int .i64) w A1 l1.length l1) (hc1 : l1.length ≤ c1) (h : spec_in.f k a0 l1 = some r) :
  Calls Try.prog 16 #[.int .i64 a0, .slice A1 l1.length c1] w fun e w' => e = .returned (.bool r) ∧ Drawn0 w w' := by
 have HR1 := a0_ hr1
 have HC1 := a0_ hc1
 clear hr1 hc1
 have H : (spec_in.l0 k a0 l1 (l1.length : Int) 0) = some r := h
 clear h
 have H' := a0_ H
 clear H
 go_enter Try.func16, Try.ntmps16
 go_wp2
 go_loopg [9] k (fun kq v9 w' => ∃ (x9_1 : Int), v9 = .int .i64 x9_1 ∧ Aside0 (spec_in.l0 kq a0 l1 (l1.length : Int) x9_1 = some r) ∧ Aside0 (kq ≤ k) ∧ Drawn0 w w')
 case atStart => exact ⟨(0), (by first | rfl | (simp; done) | (simp [*]; done)), H', ⟨Nat.le_refl _⟩, by repeat (first | exact Drawn0.refl _ | apply Drawn0.step)⟩
 case round =>
  clear H'
  try clear c1
  try clear p2
  obtain ⟨x9_1, rfl, HA, HK1, ⟨m1, rfl⟩⟩ := hrel
  cases gk with
  | zero => exact absurd HA.out (by simp [spec_in.l0])
  | succ k1 =>
   have H := HA.out
   clear HA
   simp only [spec_in.l0] at H
   by_cases c3 : x9_1 < (l1.length : Int)
   ·
    rw [if_pos c3] at H
    have c3b0 : decide (x9_1 < (l1.length : Int)) = true := d2_ c3
    clear c3
    by_cases c4 : 0 ≤ x9_1
    ·
     rw [if_pos c4] at H
     have c4b0 : decide (0 ≤ x9_1) = true := d2_ c4
     clear c4
     by_cases c5 : x9_1 < (l1.length : Int)
     ·
      rw [if_pos c5] at H
      have c5b0 : decide (x9_1 < (l1.length : Int)) = true := d2_ c5
      clear c5
      by_cases c6 : a0 = (rd l1 x9_1)
      ·
       rw [if_pos c6] at H
       have c6b0 : (a0 == (rd l1 x9_1)) = true := beq_iff_eq.mpr c6
       have c6b1 : (a0 != (rd l1 x9_1)) = false := bne_eq_false_iff_eq.mpr c6
       clear c6
       obtain rfl := o1_ H
       have p101 : 0 ≤ (x9_1 : Int) := d1_ (by first | (with_reducible assumption) | assumption)
       have q101 : x9_1 < (l1.length : Int) := d1_ (by first | (with_reducible assumption) | assumption)
       obtain ⟨ad101, e101, hx101_0⟩ := Kd.at_int HR1.out x9_1 p101 q101
       cases e101
       replace p101 := eq_true p101
       replace q101 := eq_true q101
       go_wp2
       go_ret
       exact ⟨by first | rfl | (simp; done) | (simp [*]; done), by repeat (first | exact Drawn0.refl _ | apply Drawn0.step)⟩
      ·
       rw [if_neg c6] at H
       have c6b0 : (a0 == (rd l1 x9_1)) = false := beq_eq_false_iff_ne.mpr c6
       have c6b1 : (a0 != (rd l1 x9_1)) = true := bne_iff_ne.mpr c6
       have H' := a0_ H
       clear H
       have p101 : 0 ≤ (x9_1 : Int) := d1_ (by first | (with_reducible assumption) | assumption)
       have q101 : x9_1 < (l1.length : Int) := d1_ (by first | (with_reducible assumption) | assumption)
       obtain ⟨ad101, e101, hx101_0⟩ := Kd.at_int HR1.out x9_1 p101 q101
       cases e101
       replace p101 := eq_true p101
       replace q101 := eq_true q101
       go_wp2
       go_roundg k1
       case measure => have := HK1.out; omega
       case rel => exact ⟨(wrap64 (x9_1 + 1)), (by first | rfl | (simp; done) | (simp [*]; done)), H', ⟨by have := HK1.out; omega⟩, by repeat (first | exact Drawn0.refl _ | apply Drawn0.step)⟩
     ·
      rw [if_neg c5] at H
      exact absurd H (by simp)
    ·
     rw [if_neg c4] at H
     exact absurd H (by simp)
   ·
    rw [if_neg c3] at H
    have c3b0 : decide (x9_1 < (l1.length : Int)) = false := d3_ c3
    clear c3
    obtain rfl := o1_ H
    go_wp2
    go_ret
    exact ⟨by first | rfl | (simp; done) | (simp [*]; done), by repeat (first | exact Drawn0.refl _ | apply Drawn0.step)⟩

/-! ### spec_OneOf: function 5 -/
def spec_OneOf.f (k : Nat) (a0 : Int) (l1 : List Int) : Option (Bool) := (spec_in.f k a0 l1).bind fun t102 => (some t102)
set_option maxHeartbeats 8000000 in
set_option maxRecDepth 100000 in
theorem spec_OneOf.calls (k : Nat) (a0 : Int) (A1 : Option Addr) (c1 : Nat) (l1 : List Int) (r : Bool) (w : World) (hr1 : Kd.C (Kd.int .i64) w A1 l1.length l1) (hc1 : l1.length ≤ c1) (h : spec_OneOf.f k a0 l1 = some r) :
  Calls Try.prog 5 #[.int .i64 a0, .slice A1 l1.length c1] w fun e w' => e = .returned (.bool r) ∧ Drawn0 w w' := by
 have HR1 := a0_ hr1
 have HC1 := a0_ hc1
 clear hr1 hc1
 have H : ((spec_in.f k a0 l1).bind fun t102 => (some t102)) = some r := h
 clear h
 replace H := Option.bind_eq_some_iff.mp H
 obtain ⟨t102, A30, H⟩ := H
 replace H : (some t102) = some r := H
 have A3 := a0_ A30
 clear A30
 obtain rfl := o1_ H
 go_enter Try.func5, Try.ntmps5
 go_wp2_with (first | ((with_reducible refine gate_callee (f := 16) rfl ?_); refine goesL_ (some 7) rfl rfl Try.func16 (by kernel_rfl) rfl #[.int .i64 a0, .slice A1 l1.length c1] rfl (by (try simp only [List.map_toArray, List.map_cons, List.map_nil]); first | done | rfl | (simp only [List.length_drop, List.length_take]; rfl)) ?_; (with_reducible refine (spec_in.calls k a0 _ _ l1 t102 _ ?side1 ?side2 A3.out).mono ?_); (case side1 => repeat (first | exact HR1.out | (with_reducible refine Kd.C_alloc ?_ _) | (with_reducible refine Kd.C_drewN ?_ _) | (with_reducible refine Kd.C_drew ?_))); (case side2 => exact HC1.out); rintro e w' ⟨rfl, ⟨nd, rfl⟩⟩; refine ⟨_, rfl, ?_⟩))
 go_ret
 exact ⟨by first | rfl | (simp; done) | (simp [*]; done), by repeat (first | exact Drawn0.refl _ | apply Drawn0.step)⟩

/-! ### spec_little: function 17 -/
def spec_little.l0 : Nat → List Int → Int → Int → Int → Option (Int)
 | 0, _, _, _, _ => none
 | k + 1, x0, x1, x7, x8 => if x8 ≥ 0 then (if 0 ≤ (wrap64 (x1 + x8)) then (if (wrap64 (x1 + x8)) < (x0.length : Int) then (spec_little.l0 k x0 x1 (Go.bits .or .u64 (IntKind.u64.wrap (x7 * 256)) (IntKind.u64.wrap (rd x0 (wrap64 (x1 + x8))))) (wrap64 (x8 - 1))) else (none)) else (none)) else (some x7)
def spec_little.f (k : Nat) (l0 : List Int) (a1 : Int) (a2 : Int) : Option (Int) := spec_little.l0 k l0 a1 0 (wrap64 (a2 - 1))
set_option maxHeartbeats 8000000 in
set_option maxRecDepth 100000 in
theorem spec_little.calls (k : Nat) (A0 : Option Addr) (c0 : Nat) (l0 : List Int) (a1 : Int) (a2 : Int) (r : Int) (w : World) (hr0 : Kd.C (Kd.int .u8) w A0 l0.length l0) (hc0 : l0.length ≤ c0) (h : spec_little.f k l0 a1 a2 = some r) :
  Calls Try.prog 17 #[.slice A0 l0.length c0, .int .i64 a1, .int .i64 a2] w fun e w' => e = .returned (.int .u64 r) ∧ Drawn0 w w' := by
 have HR0 := a0_ hr0
 have HC0 := a0_ hc0
 clear hr0 hc0
 have H : (spec_little.l0 k l0 a1 0 (wrap64 (a2 - 1))) = some r := h
 clear h
 have H' := a0_ H
 clear H
 go_enter Try.func17, Try.ntmps17
 go_wp2
 go_loopg [7, 8] k (fun kq v7 v8 w' => ∃ (x7_1 : Int) (x8_1 : Int), v7 = .int .u64 x7_1 ∧ v8 = .int .i64 x8_1 ∧ Aside0 (spec_little.l0 kq l0 a1 x7_1 x8_1 = some r) ∧ Aside0 (kq ≤ k) ∧ Drawn0 w w')
 case atStart => exact ⟨(0), (wrap64 (a2 - 1)), (by first | rfl | (simp; done) | (simp [*]; done)), (by first | rfl | (simp; done) | (simp [*]; done)), H', ⟨Nat.le_refl _⟩, by repeat (first | exact Drawn0.refl _ | apply Drawn0.step)⟩
 case round =>
  clear H'
  try clear c1
  try clear p2
  obtain ⟨x7_1, x8_1, rfl, rfl, HA, HK1, ⟨m1, rfl⟩⟩ := hrel
  cases gk with
  | zero => exact absurd HA.out (by simp [spec_little.l0])
  | succ k1 =>
   have H := HA.out
   clear HA
   simp only [spec_little.l0] at H
   by_cases c4 : x8_1 ≥ 0
   ·
    rw [if_pos c4] at H
    have c4b0 : decide (0 ≤ x8_1) = true := d2_ c4
    clear c4
    obtain ⟨ji5, hji5⟩ : ∃ j_ : Int, (wrap64 (a1 + x8_1)) = j_ := ⟨_, rfl⟩
    replace H : (if 0 ≤ (ji5) then (if (ji5) < (l0.length : Int) then (spec_little.l0 k1 l0 a1 (Go.bits .or .u64 (IntKind.u64.wrap (x7_1 * 256)) (IntKind.u64.wrap (rd l0 (ji5)))) (wrap64 (x8_1 - 1))) else (none)) else (none)) = some r := by first | (rw [hji5] at H; exact H) | (simp only [hji5] at H ⊢; exact H)
    have hji5w : (IntKind.i64.wrap (a1 + x8_1)) = ji5 := (i64_w _).trans hji5
    by_cases c6 : 0 ≤ (ji5)
    ·
     rw [if_pos c6] at H
     have c6b0 : decide (0 ≤ (ji5)) = true := d2_ c6
     clear c6
     by_cases c7 : (ji5) < (l0.length : Int)
     ·
      rw [if_pos c7] at H
      have c7b0 : decide ((ji5) < (l0.length : Int)) = true := d2_ c7
      clear c7
      have H' := a0_ H
      clear H
      have p103 : 0 ≤ ((ji5) : Int) := d1_ (by first | (with_reducible assumption) | assumption)
      have q103 : (ji5) < (l0.length : Int) := d1_ (by first | (with_reducible assumption) | assumption)
      obtain ⟨ad103, e103, hx103_0⟩ := Kd.at_int HR0.out (ji5) p103 q103
      cases e103
      replace p103 := eq_true p103
      replace q103 := eq_true q103
      go_wp2
      go_roundg k1
      case measure => have := HK1.out; omega
      case rel => exact ⟨(Go.bits .or .u64 (IntKind.u64.wrap (x7_1 * 256)) (IntKind.u64.wrap (rd l0 (ji5)))), (wrap64 (x8_1 - 1)), (by first | rfl | (simp; done) | (simp only [← hji5] <;> (first | rfl | simp)) | (simp [*]; done)), (by first | rfl | (simp; done) | (simp [*]; done)), H', ⟨by have := HK1.out; omega⟩, by repeat (first | exact Drawn0.refl _ | apply Drawn0.step)⟩
     ·
      rw [if_neg c7] at H
      exact absurd H (by simp)
    ·
     rw [if_neg c6] at H
     exact absurd H (by simp)
   ·
    rw [if_neg c4] at H
    have c4b0 : decide (0 ≤ x8_1) = false := d3_ c4
    clear c4
    obtain rfl := o1_ H
    go_wp2
    go_ret
    exact ⟨by first | rfl | (simp; done) | (simp [*]; done), by repeat (first | exact Drawn0.refl _ | apply Drawn0.step)⟩

/-! ### spec_LittleOf: function 6 -/
def spec_LittleOf.f (k : Nat) (l0 : List Int) : Option (Int) := (spec_little.f k l0 0 (l0.length : Int)).bind fun t104 => (some t104)
set_option maxHeartbeats 8000000 in
set_option maxRecDepth 100000 in
theorem spec_LittleOf.calls (k : Nat) (A0 : Option Addr) (c0 : Nat) (l0 : List Int) (r : Int) (w : World) (hr0 : Kd.C (Kd.int .u8) w A0 l0.length l0) (hc0 : l0.length ≤ c0) (h : spec_LittleOf.f k l0 = some r) :
  Calls Try.prog 6 #[.slice A0 l0.length c0] w fun e w' => e = .returned (.int .u64 r) ∧ Drawn0 w w' := by
 have HR0 := a0_ hr0
 have HC0 := a0_ hc0
 clear hr0 hc0
 have H : ((spec_little.f k l0 0 (l0.length : Int)).bind fun t104 => (some t104)) = some r := h
 clear h
 replace H := Option.bind_eq_some_iff.mp H
 obtain ⟨t104, A20, H⟩ := H
 replace H : (some t104) = some r := H
 have A2 := a0_ A20
 clear A20
 obtain rfl := o1_ H
 go_enter Try.func6, Try.ntmps6
 go_wp2_with (first | ((with_reducible refine gate_callee (f := 17) rfl ?_); refine goesL_ (some 6) rfl rfl Try.func17 (by kernel_rfl) rfl #[.slice A0 l0.length c0, .int .i64 0, .int .i64 (l0.length : Int)] rfl (by (try simp only [List.map_toArray, List.map_cons, List.map_nil]); first | done | rfl | (simp only [List.length_drop, List.length_take]; rfl)) ?_; (with_reducible refine (spec_little.calls k _ _ l0 0 (l0.length : Int) t104 _ ?side1 ?side2 A2.out).mono ?_); (case side1 => repeat (first | exact HR0.out | (with_reducible refine Kd.C_alloc ?_ _) | (with_reducible refine Kd.C_drewN ?_ _) | (with_reducible refine Kd.C_drew ?_))); (case side2 => exact HC0.out); rintro e w' ⟨rfl, ⟨nd, rfl⟩⟩; refine ⟨_, rfl, ?_⟩))
 go_ret
 exact ⟨by first | rfl | (simp; done) | (simp [*]; done), by repeat (first | exact Drawn0.refl _ | apply Drawn0.step)⟩

/-! ### spec_plainReal: function 18 -/
def spec_plainReal.f (a0 : Int) (a1 : Int) : Option (Bool) := if a1 = 4 then (if (Go.bits .and .u64 (a0 / 8388608) 255) = 255 then (some false) else (some (a0 != 2147483648))) else (if (Go.bits .and .u64 (a0 / 4503599627370496) 2047) = 2047 then (some false) else (some (a0 != 9223372036854775808)))
set_option maxHeartbeats 8000000 in
set_option maxRecDepth 100000 in
theorem spec_plainReal.calls (a0 : Int) (a1 : Int) (r : Bool) (w : World) (h : spec_plainReal.f a0 a1 = some r) :
  Calls Try.prog 18 #[.int .u64 a0, .int .i64 a1] w fun e w' => e = .returned (.bool r) ∧ Drawn0 w w' := by
 have H : (if a1 = 4 then (if (Go.bits .and .u64 (a0 / 8388608) 255) = 255 then (some false) else (some (a0 != 2147483648))) else (if (Go.bits .and .u64 (a0 / 4503599627370496) 2047) = 2047 then (some false) else (some (a0 != 9223372036854775808)))) = some r := h
 clear h
 by_cases c3 : a1 = 4
 ·
  rw [if_pos c3] at H
  have c3b0 : (a1 == 4) = true := beq_iff_eq.mpr c3
  have c3b1 : (a1 != 4) = false := bne_eq_false_iff_eq.mpr c3
  clear c3
  by_cases c4 : (Go.bits .and .u64 (a0 / 8388608) 255) = 255
  ·
   rw [if_pos c4] at H
   have c4b0 : ((Go.bits .and .u64 (a0 / 8388608) 255) == 255) = true := beq_iff_eq.mpr c4
   have c4b1 : ((Go.bits .and .u64 (a0 / 8388608) 255) != 255) = false := bne_eq_false_iff_eq.mpr c4
   clear c4
   obtain rfl := o1_ H
   go_enter Try.func18, Try.ntmps18
   go_wp2
   go_ret
   exact ⟨by first | rfl | (simp; done) | (simp [*]; done), by repeat (first | exact Drawn0.refl _ | apply Drawn0.step)⟩
  ·
   rw [if_neg c4] at H
   have c4b0 : ((Go.bits .and .u64 (a0 / 8388608) 255) == 255) = false := beq_eq_false_iff_ne.mpr c4
   have c4b1 : ((Go.bits .and .u64 (a0 / 8388608) 255) != 255) = true := bne_iff_ne.mpr c4
   obtain rfl := o1_ H
   go_enter Try.func18, Try.ntmps18
   go_wp2
   go_ret
   exact ⟨by first | rfl | (simp; done) | (simp [*]; done), by repeat (first | exact Drawn0.refl _ | apply Drawn0.step)⟩
 ·
  rw [if_neg c3] at H
  have c3b0 : (a1 == 4) = false := beq_eq_false_iff_ne.mpr c3
  have c3b1 : (a1 != 4) = true := bne_iff_ne.mpr c3
  by_cases c5 : (Go.bits .and .u64 (a0 / 4503599627370496) 2047) = 2047
  ·
   rw [if_pos c5] at H
   have c5b0 : ((Go.bits .and .u64 (a0 / 4503599627370496) 2047) == 2047) = true := beq_iff_eq.mpr c5
   have c5b1 : ((Go.bits .and .u64 (a0 / 4503599627370496) 2047) != 2047) = false := bne_eq_false_iff_eq.mpr c5
   clear c5
   obtain rfl := o1_ H
   go_enter Try.func18, Try.ntmps18
   go_wp2
   go_ret
   exact ⟨by first | rfl | (simp; done) | (simp [*]; done), by repeat (first | exact Drawn0.refl _ | apply Drawn0.step)⟩
  ·
   rw [if_neg c5] at H
   have c5b0 : ((Go.bits .and .u64 (a0 / 4503599627370496) 2047) == 2047) = false := beq_eq_false_iff_ne.mpr c5
   have c5b1 : ((Go.bits .and .u64 (a0 / 4503599627370496) 2047) != 2047) = true := bne_iff_ne.mpr c5
   obtain rfl := o1_ H
   go_enter Try.func18, Try.ntmps18
   go_wp2
   go_ret
   exact ⟨by first | rfl | (simp; done) | (simp [*]; done), by repeat (first | exact Drawn0.refl _ | apply Drawn0.step)⟩

/-! ### spec_PlainReal: function 7 -/
def spec_PlainReal.f (a0 : Int) (a1 : Int) : Option (Bool) := (spec_plainReal.f a0 a1).bind fun t105 => (some t105)
set_option maxHeartbeats 8000000 in
set_option maxRecDepth 100000 in
theorem spec_PlainReal.calls (a0 : Int) (a1 : Int) (r : Bool) (w : World) (h : spec_PlainReal.f a0 a1 = some r) :
  Calls Try.prog 7 #[.int .u64 a0, .int .i64 a1] w fun e w' => e = .returned (.bool r) ∧ Drawn0 w w' := by
 have H : ((spec_plainReal.f a0 a1).bind fun t105 => (some t105)) = some r := h
 clear h
 replace H := Option.bind_eq_some_iff.mp H
 obtain ⟨t105, A30, H⟩ := H
 replace H : (some t105) = some r := H
 have A3 := a0_ A30
 clear A30
 obtain rfl := o1_ H
 go_enter Try.func7, Try.ntmps7
 go_wp2_with (first | ((with_reducible refine gate_callee (f := 18) rfl ?_); refine goesL_ (some 7) rfl rfl Try.func18 (by kernel_rfl) rfl #[.int .u64 a0, .int .i64 a1] rfl (by (try simp only [List.map_toArray, List.map_cons, List.map_nil]); first | done | rfl | (simp only [List.length_drop, List.length_take]; rfl)) ?_; (with_reducible refine (spec_plainReal.calls a0 a1 t105 _ A3.out).mono ?_); rintro e w' ⟨rfl, ⟨nd, rfl⟩⟩; refine ⟨_, rfl, ?_⟩))
 go_ret
 exact ⟨by first | rfl | (simp; done) | (simp [*]; done), by repeat (first | exact Drawn0.refl _ | apply Drawn0.step)⟩

/-! ### laws_same: function 9 -/
def laws_same.f (l0 : List Int) (l1 : List Int) : Option (Bool) := some ((strOfNums l0).toList == (strOfNums l1).toList)
set_option maxHeartbeats 8000000 in
set_option maxRecDepth 100000 in
theorem laws_same.calls (A0 : Option Addr) (c0 : Nat) (l0 : List Int) (A1 : Option Addr) (c1 : Nat) (l1 : List Int) (r : Bool) (w : World) (hr0 : Kd.C (Kd.int .u8) w A0 l0.length l0) (hc0 : l0.length ≤ c0) (hr1 : Kd.C (Kd.int .u8) w A1 l1.length l1) (hc1 : l1.length ≤ c1) (h : laws_same.f l0 l1 = some r) :
  Calls Try.prog 9 #[.slice A0 l0.length c0, .slice A1 l1.length c1] w fun e w' => e = .returned (.bool r) ∧ Drawn0 w w' := by
 have HR0 := a0_ hr0
 have HC0 := a0_ hc0
 clear hr0 hc0
 have HR1 := a0_ hr1
 have HC1 := a0_ hc1
 clear hr1 hc1
 have H : (some ((strOfNums l0).toList == (strOfNums l1).toList)) = some r := h
 clear h
 obtain rfl := o1_ H
 have hcv3 := Kd.C_string (P := Try.prog) (A := A0) (c := c0) Try.underlying22 Try.underlying5 Try.underlying9 HR0.out
 have hcv4 := Kd.C_string (P := Try.prog) (A := A1) (c := c1) Try.underlying22 Try.underlying5 Try.underlying9 HR1.out
 go_enter Try.func9, Try.ntmps9
 go_wp2
 go_ret
 exact ⟨by first | rfl | (simp; done) | (simp [*]; done), by repeat (first | exact Drawn0.refl _ | apply Drawn0.step)⟩


end Go.Proofs.Ytbepnloclnjkfaa.V
