/- . -/
import Derived.Test.YteebgnhhjlgnjaaGreatDoorV0
namespace Go.Proofs.YteebgnhhjlgnjaaGreatDoor.V
open Go.RowKit Go.Proofs.YteebgnhhjlgnjaaGreatDoorW.PrintWords Go.Proofs.YteebgnhhjlgnjaaGreatDoorW.PrintLast Go.Proofs.YteebgnhhjlgnjaaGreatDoorW.PrintMore
attribute [local go_sem] max2_int min2_int max_two min_two max_three min_three max_four min_four
set_option maxHeartbeats 40000000
set_option maxRecDepth 100000
set_option linter.unusedVariables false
set_option linter.unusedSimpArgs false
def spec_in.l0 : Nat → Int → List Int → Int → Int → Option (Bool)
 | 0, _, _, _, _ => none
 | k + 1, x0, x7, x8, x9 => if x9 < x8 then (if 0 ≤ x9 then (if x9 < (x7.length : Int) then (if x0 = (rd x7 x9) then (some true) else (spec_in.l0 k x0 x7 x8 (wrap64 (x9 + 1)))) else (none)) else (none)) else (some false)
def spec_in.f (k : Nat) (a0 : Int) (l1 : List Int) : Option (Bool) := spec_in.l0 k a0 l1 (l1.length : Int) 0
theorem spec_in.calls (k : Nat) (a0 : Int) (A1 : Option Addr) (c1 : Nat) (l1 : List Int) (r : Bool) (w : World) (hr1 : Kd.C (Kd.int .i64) w A1 l1.length l1) (hc1 : l1.length ≤ c1) (h : spec_in.f k a0 l1 = some r) :
 Calls Tryz.prog 56 #[.int .i64 a0, .slice A1 l1.length c1] w fun e w' => e = .returned (.bool r) ∧ Drawn0 w w' := by
 have HR1 := a0_ hr1
 have HC1 := a0_ hc1
 clear hr1 hc1
 have H : (spec_in.l0 k a0 l1 (l1.length : Int) 0) = some r := h
 clear h
 have H' := a0_ H
 clear H
 go_enter Tryz.func56, Tryz.ntmps56
 go_wp2
 go_loopg [9] k (fun kq v9 w' => ∃ (x9_1 : Int), v9 = .int .i64 x9_1 ∧ Aside0 (spec_in.l0 kq a0 l1 (l1.length : Int) x9_1 = some r) ∧ Aside0 (kq ≤ k) ∧ Drawn0 w w')
 case atStart => exact ⟨(0), (by first | rfl | (simp; done) | (simp [*]; done)), H', ⟨Nat.le_refl _⟩, by repeat (first | exact Drawn0.refl _ | apply Drawn0.step)⟩
 case round =>
  clear H'
  try clear c1
  try clear p2
  obtain ⟨x9_1, rfl, HA, HK1, ⟨m1, rfl⟩⟩ := hrel
  cases gk with
  | zero => exact absurd HA.out (by simp [spec_in.l0])
  | succ k1 =>
   have H := HA.out
   clear HA
   simp only [spec_in.l0] at H
   by_cases c3 : x9_1 < (l1.length : Int)
   ·
    rw [if_pos c3] at H
    have c3b0 : decide (x9_1 < (l1.length : Int)) = true := d2_ c3
    clear c3
    by_cases c4 : 0 ≤ x9_1
    ·
     rw [if_pos c4] at H
     have c4b0 : decide (0 ≤ x9_1) = true := d2_ c4
     clear c4
     by_cases c5 : x9_1 < (l1.length : Int)
     ·
      rw [if_pos c5] at H
      have c5b0 : decide (x9_1 < (l1.length : Int)) = true := d2_ c5
      clear c5
      by_cases c6 : a0 = (rd l1 x9_1)
      ·
       rw [if_pos c6] at H
       have c6b0 : (a0 == (rd l1 x9_1)) = true := beq_iff_eq.mpr c6
       have c6b1 : (a0 != (rd l1 x9_1)) = false := bne_eq_false_iff_eq.mpr c6
       clear c6
       obtain rfl := o1_ H
       have p109 : 0 ≤ (x9_1 : Int) := d1_ (by first | (with_reducible assumption) | assumption)
       have q109 : x9_1 < (l1.length : Int) := d1_ (by first | (with_reducible assumption) | assumption)
       obtain ⟨ad109, e109, hx109_0⟩ := Kd.at_int HR1.out x9_1 p109 q109
       cases e109
       replace p109 := eq_true p109
       replace q109 := eq_true q109
       go_wp2
       go_ret
       exact ⟨by first | rfl | (simp; done) | (simp [*]; done), by repeat (first | exact Drawn0.refl _ | apply Drawn0.step)⟩
      ·
       rw [if_neg c6] at H
       have c6b0 : (a0 == (rd l1 x9_1)) = false := beq_eq_false_iff_ne.mpr c6
       have c6b1 : (a0 != (rd l1 x9_1)) = true := bne_iff_ne.mpr c6
       have H' := a0_ H
       clear H
       have p109 : 0 ≤ (x9_1 : Int) := d1_ (by first | (with_reducible assumption) | assumption)
       have q109 : x9_1 < (l1.length : Int) := d1_ (by first | (with_reducible assumption) | assumption)
       obtain ⟨ad109, e109, hx109_0⟩ := Kd.at_int HR1.out x9_1 p109 q109
       cases e109
       replace p109 := eq_true p109
       replace q109 := eq_true q109
       go_wp2
       go_roundg k1
       case measure => have := HK1.out; omega
       case rel => exact ⟨(wrap64 (x9_1 + 1)), (by first | rfl | (simp; done) | (simp [*]; done)), H', ⟨by have := HK1.out; omega⟩, by repeat (first | exact Drawn0.refl _ | apply Drawn0.step)⟩
     ·
      rw [if_neg c5] at H
      exact absurd H (by simp)
    ·
     rw [if_neg c4] at H
     exact absurd H (by simp)
   ·
    rw [if_neg c3] at H
    have c3b0 : decide (x9_1 < (l1.length : Int)) = false := d3_ c3
    clear c3
    obtain rfl := o1_ H
    go_wp2
    go_ret
    exact ⟨by first | rfl | (simp; done) | (simp [*]; done), by repeat (first | exact Drawn0.refl _ | apply Drawn0.step)⟩
def spec_precisions.f (a0 : Int) : Option (Int) := if a0 = 32 then (some 9) else (if a0 = 64 then (some 18) else (if a0 = 128 then (some 38) else (some 76)))
theorem spec_precisions.calls (a0 : Int) (r : Int) (w : World) (h : spec_precisions.f a0 = some r) :
 Calls Tryz.prog 57 #[.int .i64 a0] w fun e w' => e = .returned (.int .i64 r) ∧ Drawn0 w w' := by
 have H : (if a0 = 32 then (some 9) else (if a0 = 64 then (some 18) else (if a0 = 128 then (some 38) else (some 76)))) = some r := h
 clear h
 by_cases c2 : a0 = 32
 ·
  rw [if_pos c2] at H
  have c2b0 : (a0 == 32) = true := beq_iff_eq.mpr c2
  have c2b1 : (a0 != 32) = false := bne_eq_false_iff_eq.mpr c2
  clear c2
  obtain rfl := o1_ H
  go_enter Tryz.func57, Tryz.ntmps57
  go_wp2
  go_ret
  exact ⟨by first | rfl | (simp; done) | (simp [*]; done), by repeat (first | exact Drawn0.refl _ | apply Drawn0.step)⟩
 ·
  rw [if_neg c2] at H
  have c2b0 : (a0 == 32) = false := beq_eq_false_iff_ne.mpr c2
  have c2b1 : (a0 != 32) = true := bne_iff_ne.mpr c2
  by_cases c3 : a0 = 64
  ·
   rw [if_pos c3] at H
   have c3b0 : (a0 == 64) = true := beq_iff_eq.mpr c3
   have c3b1 : (a0 != 64) = false := bne_eq_false_iff_eq.mpr c3
   clear c3
   obtain rfl := o1_ H
   go_enter Tryz.func57, Tryz.ntmps57
   go_wp2
   go_ret
   exact ⟨by first | rfl | (simp; done) | (simp [*]; done), by repeat (first | exact Drawn0.refl _ | apply Drawn0.step)⟩
  ·
   rw [if_neg c3] at H
   have c3b0 : (a0 == 64) = false := beq_eq_false_iff_ne.mpr c3
   have c3b1 : (a0 != 64) = true := bne_iff_ne.mpr c3
   by_cases c4 : a0 = 128
   ·
    rw [if_pos c4] at H
    have c4b0 : (a0 == 128) = true := beq_iff_eq.mpr c4
    have c4b1 : (a0 != 128) = false := bne_eq_false_iff_eq.mpr c4
    clear c4
    obtain rfl := o1_ H
    go_enter Tryz.func57, Tryz.ntmps57
    go_wp2
    go_ret
    exact ⟨by first | rfl | (simp; done) | (simp [*]; done), by repeat (first | exact Drawn0.refl _ | apply Drawn0.step)⟩
   ·
    rw [if_neg c4] at H
    have c4b0 : (a0 == 128) = false := beq_eq_false_iff_ne.mpr c4
    have c4b1 : (a0 != 128) = true := bne_iff_ne.mpr c4
    obtain rfl := o1_ H
    go_enter Tryz.func57, Tryz.ntmps57
    go_wp2
    go_ret
    exact ⟨by first | rfl | (simp; done) | (simp [*]; done), by repeat (first | exact Drawn0.refl _ | apply Drawn0.step)⟩
end Go.Proofs.YteebgnhhjlgnjaaGreatDoor.V
