/- . -/
import Derived.Test.YteebgnhhjlgnjaaGreatDoorFV1
namespace Go.Proofs.YteebgnhhjlgnjaaGreatDoor.V
open Go.RowKit Go.Proofs.YteebgnhhjlgnjaaGreatDoorW.PrintWords Go.Proofs.YteebgnhhjlgnjaaGreatDoorW.PrintLast Go.Proofs.YteebgnhhjlgnjaaGreatDoorW.PrintMore
attribute [local go_sem] max2_int min2_int max_two min_two max_three min_three max_four min_four
set_option maxHeartbeats 40000000
set_option maxRecDepth 100000
set_option linter.unusedVariables false
set_option linter.unusedSimpArgs false
mutual
def spec_parts.j0 : Nat → Int → Bool → Option (Int × Int)
 | 0, _, _ => none
 | k + 1, x4, x5 => if x5 = true then (some (1, 1)) else (if x4 = 22 then (spec_parts.j1 k x4 (x4 == 22)) else (spec_parts.j1 k x4 (x4 == 27)))
def spec_parts.j1 : Nat → Int → Bool → Option (Int × Int)
 | 0, _, _ => none
 | k + 1, x4, x12 => if x12 = true then (some (2, 2)) else (if x4 = 13 then (some (0, 100)) else (if x4 = 14 then (some (0, 100)) else (some (0, 0))))
end
def spec_parts.f (k : Nat) (a0 : Int) : Option (Int × Int) := if a0 = 12 then (spec_parts.j0 k a0 (a0 == 12)) else (if a0 = 21 then (spec_parts.j0 k a0 (a0 == 21)) else (if a0 = 25 then (spec_parts.j0 k a0 (a0 == 25)) else (if a0 = 26 then (spec_parts.j0 k a0 (a0 == 26)) else (if a0 = 16 then (spec_parts.j0 k a0 (a0 == 16)) else (spec_parts.j0 k a0 (a0 == 17))))))
theorem spec_parts.calls (k : Nat) (a0 : Int) (r1 : Int) (r2 : Int) (w : World) (h : spec_parts.f k a0 = some (r1, r2)) :
 Calls Tryz.prog 53 #[.int .i64 a0] w fun e w' => e = .returned (.tuple #[.int .i64 r1, .int .i64 r2]) ∧ Drawn0 w w' := by
 have H : (if a0 = 12 then (spec_parts.j0 k a0 (a0 == 12)) else (if a0 = 21 then (spec_parts.j0 k a0 (a0 == 21)) else (if a0 = 25 then (spec_parts.j0 k a0 (a0 == 25)) else (if a0 = 26 then (spec_parts.j0 k a0 (a0 == 26)) else (if a0 = 16 then (spec_parts.j0 k a0 (a0 == 16)) else (spec_parts.j0 k a0 (a0 == 17))))))) = some (r1, r2) := h
 clear h
 have HC2 := a0_ H
 clear H
 go_enter Tryz.func53, Tryz.ntmps53
 go_upto_if 5 with (fail)
 go_cut [5] (fun v5 wc => ∃ (kq : Nat) (x5_1 : Bool), v5 = .bool x5_1 ∧ Aside0 (spec_parts.j0 kq a0 x5_1 = some (r1, r2)) ∧ Aside0 (kq ≤ k) ∧ Drawn0 w wc)
 case first =>
  have H := HC2.out
  clear HC2
  by_cases c3 : a0 = 12
  ·
   rw [if_pos c3] at H
   have c3b0 : (a0 == 12) = true := beq_iff_eq.mpr c3
   have c3b1 : (a0 != 12) = false := bne_eq_false_iff_eq.mpr c3
   clear c3
   (first | rw [c3b0] | (simp only [i64_w, i32_w]; rw [c3b0]) | skip)
   have H' := a0_ H
   clear H
   go_wp2
   go_meet
   case rel => exact ⟨_, ((a0 == 12)), (by first | rfl | (simp; done) | (simp [*]; done)), H', ⟨by first | omega | exact Nat.le_refl _⟩, by repeat (first | exact Drawn0.refl _ | apply Drawn0.step)⟩
  ·
   rw [if_neg c3] at H
   have c3b0 : (a0 == 12) = false := beq_eq_false_iff_ne.mpr c3
   have c3b1 : (a0 != 12) = true := bne_iff_ne.mpr c3
   (first | rw [c3b0] | (simp only [i64_w, i32_w]; rw [c3b0]) | skip)
   by_cases c4 : a0 = 21
   ·
    rw [if_pos c4] at H
    have c4b0 : (a0 == 21) = true := beq_iff_eq.mpr c4
    have c4b1 : (a0 != 21) = false := bne_eq_false_iff_eq.mpr c4
    clear c4
    have H' := a0_ H
    clear H
    go_wp2
    go_meet
    case rel => exact ⟨_, ((a0 == 21)), (by first | rfl | (simp; done) | (simp [*]; done)), H', ⟨by first | omega | exact Nat.le_refl _⟩, by repeat (first | exact Drawn0.refl _ | apply Drawn0.step)⟩
   ·
    rw [if_neg c4] at H
    have c4b0 : (a0 == 21) = false := beq_eq_false_iff_ne.mpr c4
    have c4b1 : (a0 != 21) = true := bne_iff_ne.mpr c4
    by_cases c5 : a0 = 25
    ·
     rw [if_pos c5] at H
     have c5b0 : (a0 == 25) = true := beq_iff_eq.mpr c5
     have c5b1 : (a0 != 25) = false := bne_eq_false_iff_eq.mpr c5
     clear c5
     have H' := a0_ H
     clear H
     go_wp2
     go_meet
     case rel => exact ⟨_, ((a0 == 25)), (by first | rfl | (simp; done) | (simp [*]; done)), H', ⟨by first | omega | exact Nat.le_refl _⟩, by repeat (first | exact Drawn0.refl _ | apply Drawn0.step)⟩
    ·
     rw [if_neg c5] at H
     have c5b0 : (a0 == 25) = false := beq_eq_false_iff_ne.mpr c5
     have c5b1 : (a0 != 25) = true := bne_iff_ne.mpr c5
     by_cases c6 : a0 = 26
     ·
      rw [if_pos c6] at H
      have c6b0 : (a0 == 26) = true := beq_iff_eq.mpr c6
      have c6b1 : (a0 != 26) = false := bne_eq_false_iff_eq.mpr c6
      clear c6
      have H' := a0_ H
      clear H
      go_wp2
      go_meet
      case rel => exact ⟨_, ((a0 == 26)), (by first | rfl | (simp; done) | (simp [*]; done)), H', ⟨by first | omega | exact Nat.le_refl _⟩, by repeat (first | exact Drawn0.refl _ | apply Drawn0.step)⟩
     ·
      rw [if_neg c6] at H
      have c6b0 : (a0 == 26) = false := beq_eq_false_iff_ne.mpr c6
      have c6b1 : (a0 != 26) = true := bne_iff_ne.mpr c6
      by_cases c7 : a0 = 16
      ·
       rw [if_pos c7] at H
       have c7b0 : (a0 == 16) = true := beq_iff_eq.mpr c7
       have c7b1 : (a0 != 16) = false := bne_eq_false_iff_eq.mpr c7
       clear c7
       have H' := a0_ H
       clear H
       go_wp2
       go_meet
       case rel => exact ⟨_, ((a0 == 16)), (by first | rfl | (simp; done) | (simp [*]; done)), H', ⟨by first | omega | exact Nat.le_refl _⟩, by repeat (first | exact Drawn0.refl _ | apply Drawn0.step)⟩
      ·
       rw [if_neg c7] at H
       have c7b0 : (a0 == 16) = false := beq_eq_false_iff_ne.mpr c7
       have c7b1 : (a0 != 16) = true := bne_iff_ne.mpr c7
       have H' := a0_ H
       clear H
       go_wp2
       go_meet
       case rel => exact ⟨_, ((a0 == 17)), (by first | rfl | (simp; done) | (simp [*]; done)), H', ⟨by first | omega | exact Nat.le_refl _⟩, by repeat (first | exact Drawn0.refl _ | apply Drawn0.step)⟩
 case rest =>
  clear HC2
  try clear p2
  try clear c3
  try clear c3b0
  try clear c3b1
  try clear c4
  try clear c4b0
  try clear c4b1
  try clear c5
  try clear c5b0
  try clear c5b1
  try clear c6
  try clear c6b0
  try clear c6b1
  try clear c7
  try clear c7b0
  try clear c7b1
  obtain ⟨kq, x5_1, rfl, HA, HJ1, ⟨mc1, rfl⟩⟩ := hcut
  cases kq with
  | zero => exact absurd HA.out (by simp [spec_parts.j0])
  | succ kj1 =>
   have H := HA.out
   clear HA
   simp only [spec_parts.j0] at H
   by_cases c8 : x5_1 = true
   ·
    subst c8
    have H1 : (some (1, 1)) = some (r1, r2) := by rw [if_pos rfl] at H; exact H
    clear H
    have H := H1
    clear H1
    simp only [Option.some.injEq, Prod.mk.injEq] at H
    obtain ⟨rfl, rfl⟩ := H
    go_wp2
    go_ret2
    exact ⟨by first | rfl | (simp; done) | (simp [*]; done), by repeat (first | exact Drawn0.refl _ | apply Drawn0.step)⟩
   ·
    replace c8 := Bool.eq_false_iff.mpr c8
    subst c8
    have H1 : (if a0 = 22 then (spec_parts.j1 kj1 a0 (a0 == 22)) else (spec_parts.j1 kj1 a0 (a0 == 27))) = some (r1, r2) := by rw [if_neg (show ¬ (false = true) by decide)] at H; exact H
    clear H
    have H := H1
    clear H1
    have HC9 := a0_ H
    clear H
    go_upto_if 12 with (fail)
    go_cut [12] (fun v12 wc => ∃ (kq : Nat) (x12_8 : Bool), v12 = .bool x12_8 ∧ Aside0 (spec_parts.j1 kq a0 x12_8 = some (r1, r2)) ∧ Aside0 (kq ≤ kj1) ∧ Drawn0 w wc)
    case first =>
     have H := HC9.out
     clear HC9
     by_cases c10 : a0 = 22
     ·
      rw [if_pos c10] at H
      have c10b0 : (a0 == 22) = true := beq_iff_eq.mpr c10
      have c10b1 : (a0 != 22) = false := bne_eq_false_iff_eq.mpr c10
      clear c10
      (first | rw [c10b0] | (simp only [i64_w, i32_w]; rw [c10b0]) | skip)
      have H' := a0_ H
      clear H
      go_wp2
      go_meet
      case rel => exact ⟨_, ((a0 == 22)), (by first | rfl | (simp; done) | (simp [*]; done)), H', ⟨by have := HJ1.out; first | omega | exact Nat.le_refl _⟩, by repeat (first | exact Drawn0.refl _ | apply Drawn0.step)⟩
     ·
      rw [if_neg c10] at H
      have c10b0 : (a0 == 22) = false := beq_eq_false_iff_ne.mpr c10
      have c10b1 : (a0 != 22) = true := bne_iff_ne.mpr c10
      (first | rw [c10b0] | (simp only [i64_w, i32_w]; rw [c10b0]) | skip)
      have H' := a0_ H
      clear H
      go_wp2
      go_meet
      case rel => exact ⟨_, ((a0 == 27)), (by first | rfl | (simp; done) | (simp [*]; done)), H', ⟨by have := HJ1.out; first | omega | exact Nat.le_refl _⟩, by repeat (first | exact Drawn0.refl _ | apply Drawn0.step)⟩
    case rest =>
     clear HC9
     try clear c1
     try clear p2
     try clear c3
     try clear c3b0
     try clear c3b1
     try clear c4
     try clear c4b0
     try clear c4b1
     try clear c5
     try clear c5b0
     try clear c5b1
     try clear c6
     try clear c6b0
     try clear c6b1
     try clear c7
     try clear c7b0
     try clear c7b1
     try clear c8
     try clear c10
     try clear c10b0
     try clear c10b1
     try clear p2
     obtain ⟨kq, x12_8, rfl, HA, HJ8, ⟨mc8, rfl⟩⟩ := hcut
     cases kq with
     | zero => exact absurd HA.out (by simp [spec_parts.j1])
     | succ kj8 =>
      have H := HA.out
      clear HA
      simp only [spec_parts.j1] at H
      by_cases c11 : x12_8 = true
      ·
       subst c11
       have H1 : (some (2, 2)) = some (r1, r2) := by rw [if_pos rfl] at H; exact H
       clear H
       have H := H1
       clear H1
       simp only [Option.some.injEq, Prod.mk.injEq] at H
       obtain ⟨rfl, rfl⟩ := H
       go_wp2
       go_ret2
       exact ⟨by first | rfl | (simp; done) | (simp [*]; done), by repeat (first | exact Drawn0.refl _ | apply Drawn0.step)⟩
      ·
       replace c11 := Bool.eq_false_iff.mpr c11
       subst c11
       have H1 : (if a0 = 13 then (some (0, 100)) else (if a0 = 14 then (some (0, 100)) else (some (0, 0)))) = some (r1, r2) := by rw [if_neg (show ¬ (false = true) by decide)] at H; exact H
       clear H
       have H := H1
       clear H1
       by_cases c12 : a0 = 13
       ·
        rw [if_pos c12] at H
        have c12b0 : (a0 == 13) = true := beq_iff_eq.mpr c12
        have c12b1 : (a0 != 13) = false := bne_eq_false_iff_eq.mpr c12
        clear c12
        simp only [Option.some.injEq, Prod.mk.injEq] at H
        obtain ⟨rfl, rfl⟩ := H
        go_wp2
        go_ret2
        exact ⟨by first | rfl | (simp; done) | (simp [*]; done), by repeat (first | exact Drawn0.refl _ | apply Drawn0.step)⟩
       ·
        rw [if_neg c12] at H
        have c12b0 : (a0 == 13) = false := beq_eq_false_iff_ne.mpr c12
        have c12b1 : (a0 != 13) = true := bne_iff_ne.mpr c12
        by_cases c13 : a0 = 14
        ·
         rw [if_pos c13] at H
         have c13b0 : (a0 == 14) = true := beq_iff_eq.mpr c13
         have c13b1 : (a0 != 14) = false := bne_eq_false_iff_eq.mpr c13
         clear c13
         simp only [Option.some.injEq, Prod.mk.injEq] at H
         obtain ⟨rfl, rfl⟩ := H
         go_wp2
         go_ret2
         exact ⟨by first | rfl | (simp; done) | (simp [*]; done), by repeat (first | exact Drawn0.refl _ | apply Drawn0.step)⟩
        ·
         rw [if_neg c13] at H
         have c13b0 : (a0 == 14) = false := beq_eq_false_iff_ne.mpr c13
         have c13b1 : (a0 != 14) = true := bne_iff_ne.mpr c13
         simp only [Option.some.injEq, Prod.mk.injEq] at H
         obtain ⟨rfl, rfl⟩ := H
         go_wp2
         go_ret2
         exact ⟨by first | rfl | (simp; done) | (simp [*]; done), by repeat (first | exact Drawn0.refl _ | apply Drawn0.step)⟩
end Go.Proofs.YteebgnhhjlgnjaaGreatDoor.V
