import Derived.Test.YthgbfmcicpmepaaDoorBV5
import Derived.Test.YthgbfmcicpmepaaDoorDC5
namespace Go.Proofs.YthgbfmcicpmepaaDoor.V
open Go.RowKit Go.Proofs.YthgbfmcicpmepaaDoorW.PrintWords Go.Proofs.YthgbfmcicpmepaaDoorW.PrintLast Go.Proofs.YthgbfmcicpmepaaDoorW.PrintMore
attribute [local go_sem] max2_int min2_int max_two min_two max_three min_three max_four min_four
set_option linter.unusedVariables false
set_option linter.unusedSimpArgs false

/-! ### laws_FnWriteWords: function 3 -/
mutual
def laws_FnWriteWords.j0 : Nat → List Int → Int → List Bool → Bool → Option (Bool)
 | 0, _, _, _, _ => none
 | k + 1, x0, x1, x2, x21 => if x21 = true then (some true) else ((laws_within.f x0 x1 (x2.length : Int)).bind fun t127 => (if t127 = true then (laws_FnWriteWords.j1 k x0 x1 x2 ((x2.length : Int) == 0)) else (laws_FnWriteWords.j1 k x0 x1 x2 true)))
def laws_FnWriteWords.j1 : Nat → List Int → Int → List Bool → Bool → Option (Bool)
 | 0, _, _, _, _ => none
 | k + 1, x0, x1, x2, x32 => if x32 = true then (some true) else (laws_FnWriteWords.l0 k x0 x1 x2 ([] : List Int) ([] : List Int) ([] : List Int) 0)
def laws_FnWriteWords.l0 : Nat → List Int → Int → List Bool → List Int → List Int → List Int → Int → Option (Bool)
 | 0, _, _, _, _, _, _, _ => none
 | k + 1, x0, x1, x2, x7, x8, x9, x10 => if x10 < (x2.length : Int) then (if (wrap64 ((x2.length : Int) - x10)) ≥ 128 then (laws_FnWriteWords.j3 k x0 x1 x2 x7 x8 x9 x10 true) else (if (Int.tmod x1 8) = 0 then (laws_FnWriteWords.j3 k x0 x1 x2 x7 x8 x9 x10 (decide ((wrap64 ((x2.length : Int) - x10)) ≥ 64))) else (laws_FnWriteWords.j3 k x0 x1 x2 x7 x8 x9 x10 false))) else ((impl_WriteWords.f x0 x1 (x2.length : Int) x7 x8 x9).bind fun t128 => ((laws_changed.f k x0 x1 x2).bind fun t131 => ((laws_same.f t128 t131).bind fun t134 => (some t134))))
def laws_FnWriteWords.j3 : Nat → List Int → Int → List Bool → List Int → List Int → List Int → Int → Bool → Option (Bool)
 | 0, _, _, _, _, _, _, _, _ => none
 | k + 1, x0, x1, x2, x7, x8, x9, x10, x53 => if x53 = true then (laws_FnWriteWords.l1 k x0 x1 x2 x7 x8 x9 x10 0 0) else (if 0 ≤ x10 then (if x10 ≤ (wrap64 (x10 + (mn 8 (wrap64 ((x2.length : Int) - x10))))) then (if (wrap64 (x10 + (mn 8 (wrap64 ((x2.length : Int) - x10))))) ≤ (x2.length : Int) then ((spec_Packed.f k ((x2.take ((wrap64 (x10 + (mn 8 (wrap64 ((x2.length : Int) - x10))))) : Int).toNat).drop (x10 : Int).toNat) 0).bind fun t140 => (if 0 < (t140.length : Int) then (if x8.length < 140737488355328 then (if x9.length < 17592186044416 then (laws_FnWriteWords.l0 k x0 x1 x2 x7 (x8 ++ [rd t140 0]) (x9 ++ [mn 8 (wrap64 ((x2.length : Int) - x10))]) (wrap64 (x10 + (mn 8 (wrap64 ((x2.length : Int) - x10)))))) else (none)) else (none)) else (none))) else (none)) else (none)) else (none))
def laws_FnWriteWords.l1 : Nat → List Int → Int → List Bool → List Int → List Int → List Int → Int → Int → Int → Option (Bool)
 | 0, _, _, _, _, _, _, _, _, _ => none
 | k + 1, x0, x1, x2, x7, x8, x9, x10, x11, x54 => if x54 < 64 then (if 0 ≤ (wrap64 (x10 + x54)) then (if (wrap64 (x10 + x54)) < (x2.length : Int) then (if rdOf false x2 (wrap64 (x10 + x54)) = true then (if 0 ≤ x54 then (laws_FnWriteWords.l1 k x0 x1 x2 x7 x8 x9 x10 (Go.bits .or .u64 x11 (shl .u64 1 x54)) (wrap64 (x54 + 1))) else (none)) else (laws_FnWriteWords.l1 k x0 x1 x2 x7 x8 x9 x10 x11 (wrap64 (x54 + 1)))) else (none)) else (none)) else (if x7.length < 17592186044416 then (laws_FnWriteWords.l0 k x0 x1 x2 (x7 ++ [x11]) x8 x9 (wrap64 (x10 + 64))) else (none))
end
def laws_FnWriteWords.f (k : Nat) (l0 : List Int) (a1 : Int) (l2 : List Bool) : Option (Bool) := if (l0.length : Int) > 2147483647 then (laws_FnWriteWords.j0 k l0 a1 l2 true) else (laws_FnWriteWords.j0 k l0 a1 l2 (decide ((l2.length : Int) > 2147483647)))
set_option maxHeartbeats 8000000 in
set_option maxRecDepth 100000 in
theorem laws_FnWriteWords.calls (k : Nat) (A0 : Option Addr) (c0 : Nat) (l0 : List Int) (a1 : Int) (A2 : Option Addr) (c2 : Nat) (l2 : List Bool) (r : Bool) (w : World) (hT : TabAt w) (hr0 : Kd.C (Kd.int .u8) w A0 l0.length l0) (hc0 : l0.length ≤ c0) (hr2 : Kd.C Kd.bool w A2 l2.length l2) (hc2 : l2.length ≤ c2) (h : laws_FnWriteWords.f k l0 a1 l2 = some r) :
  Calls Tryd.prog 3 #[.slice A0 l0.length c0, .int .i64 a1, .slice A2 l2.length c2] w fun e w' => e = .returned (.bool r) ∧ Below w.heap.size w w' := by
 have HR0 := a0_ hr0
 have HC0 := a0_ hc0
 clear hr0 hc0
 have HR2 := a0_ hr2
 have HC2 := a0_ hc2
 clear hr2 hc2
 have HB := a0_ (Below.refl w.heap.size w)
 have HTAB := a0_ hT
 clear hT
 have H : (if (l0.length : Int) > 2147483647 then (laws_FnWriteWords.j0 k l0 a1 l2 true) else (laws_FnWriteWords.j0 k l0 a1 l2 (decide ((l2.length : Int) > 2147483647)))) = some r := h
 clear h
 have HC4 := a0_ H
 clear H
 go_enter Tryd.func3, Tryd.ntmps3
 go_upto_region 1 with (fail)
 go_cut [21] (fun v21 wc => ∃ (kq : Nat) (x21_3 : Bool), v21 = .bool x21_3 ∧ Aside0 (laws_FnWriteWords.j0 kq l0 a1 l2 x21_3 = some r) ∧ Aside0 (kq ≤ k) ∧ Aside0 (Below w.heap.size w wc))
 case first =>
  have H := HC4.out
  clear HC4
  by_cases c5 : (l0.length : Int) > 2147483647
  ·
   rw [if_pos c5] at H
   have c5b0 : decide (2147483647 < (l0.length : Int)) = true := d2_ c5
   have c5b1 : decide (2147483647 < l0.length) = true := d2_ (by omega)
   clear c5
   (first | rw [c5b0] | (simp only [i64_w, i32_w]; rw [c5b0]) | skip)
   have H' := a0_ H
   clear H
   go_wp2
   go_meet
   case rel => exact ⟨_, (true), (by first | rfl | (simp; done) | (simp [*]; done)), H', ⟨by first | omega | exact Nat.le_refl _⟩, ⟨by repeat (first | (with_reducible first | exact HB.out | apply b1_ | apply b2_ | apply b3_) | exact HB.out)⟩⟩
  ·
   rw [if_neg c5] at H
   have c5b0 : decide (2147483647 < (l0.length : Int)) = false := d3_ c5
   have c5b1 : decide (2147483647 < l0.length) = false := d3_ (by omega)
   clear c5
   (first | rw [c5b0] | (simp only [i64_w, i32_w]; rw [c5b0]) | skip)
   have H' := a0_ H
   clear H
   go_wp2
   go_meet
   case rel => exact ⟨_, (decide ((l2.length : Int) > 2147483647)), (by first | rfl | (simp; done) | (simp [*]; done)), H', ⟨by first | omega | exact Nat.le_refl _⟩, ⟨by repeat (first | (with_reducible first | exact HB.out | apply b1_ | apply b2_ | apply b3_) | exact HB.out)⟩⟩
 case rest =>
  clear HC4
  try clear c2
  try clear p2
  try clear c3
  try clear c5
  try clear c5b0
  try clear c5b1
  obtain ⟨kq, x21_3, rfl, HA, HJ3, HB⟩ := hcut
  cases kq with
  | zero => exact absurd HA.out (by simp [laws_FnWriteWords.j0])
  | succ kj3 =>
   have H := HA.out
   clear HA
   simp only [laws_FnWriteWords.j0] at H
   by_cases c6 : x21_3 = true
   ·
    subst c6
    have H1 : (some true) = some r := by rw [if_pos rfl] at H; exact H
    clear H
    have H := H1
    clear H1
    obtain rfl := o1_ H
    go_wp2
    go_ret
    exact ⟨by first | rfl | (simp [e1_, e2_] <;> rfl) | (simp [*, e1_, e2_] <;> rfl), by repeat (first | (with_reducible first | exact HB.out | apply b1_ | apply b2_ | apply b3_) | exact HB.out)⟩
   ·
    replace c6 := Bool.eq_false_iff.mpr c6
    subst c6
    have H1 : ((laws_within.f l0 a1 (l2.length : Int)).bind fun t127 => (if t127 = true then (laws_FnWriteWords.j1 kj3 l0 a1 l2 ((l2.length : Int) == 0)) else (laws_FnWriteWords.j1 kj3 l0 a1 l2 true))) = some r := by rw [if_neg (show ¬ (false = true) by decide)] at H; exact H
    clear H
    have H := H1
    clear H1
    have HC7 := a0_ H
    clear H
    go_upto_region 3 with (fail)
    go_cut [32] (fun v32 wc => ∃ (kq : Nat) (x32_6 : Bool), v32 = .bool x32_6 ∧ Aside0 (laws_FnWriteWords.j1 kq l0 a1 l2 x32_6 = some r) ∧ Aside0 (kq ≤ kj3) ∧ Aside0 (Below w.heap.size w wc))
    case first =>
     have H := HC7.out
     clear HC7
     replace H := Option.bind_eq_some_iff.mp H
     obtain ⟨t127, A80, H⟩ := H
     replace H : (if t127 = true then (laws_FnWriteWords.j1 kj3 l0 a1 l2 ((l2.length : Int) == 0)) else (laws_FnWriteWords.j1 kj3 l0 a1 l2 true)) = some r := H
     have A8 := a0_ A80
     clear A80
     by_cases c9 : t127 = true
     ·
      subst c9
      have H1 : (laws_FnWriteWords.j1 kj3 l0 a1 l2 ((l2.length : Int) == 0)) = some r := by rw [if_pos rfl] at H; exact H
      clear H
      have H := H1
      clear H1
      have H' := a0_ H
      clear H
      go_wp2_with (first | ((with_reducible refine gate_callee (f := 6) rfl ?_); refine goesL_ (some 26) rfl rfl Tryd.func6 (by kernel_rfl) rfl #[.slice A0 l0.length c0, .int .i64 a1, .int .i64 (l2.length : Int)] rfl (by (try simp only [List.map_toArray, List.map_cons, List.map_nil]); first | done | rfl | (simp only [List.length_drop, List.length_take]; rfl)) ?_; (with_reducible refine (laws_within.calls _ _ l0 a1 (l2.length : Int) true _ ?side1 ?side2 A8.out).mono ?_); (case side1 => repeat (first | exact (Kd.C_below HR0.out HB.out) | (with_reducible refine Kd.C_alloc ?_ _) | (with_reducible refine Kd.C_drewN ?_ _) | (with_reducible refine Kd.C_drew ?_))); (case side2 => exact HC0.out); rintro e w' ⟨rfl, ⟨nd, rfl⟩⟩; refine ⟨_, rfl, ?_⟩))
      go_meet
      case rel => exact ⟨_, (((l2.length : Int) == 0)), (by first | rfl | (simp; done) | (simp [*]; done)), H', ⟨by have := HJ3.out; first | omega | exact Nat.le_refl _⟩, ⟨by repeat (first | (with_reducible first | exact HB.out | apply b1_ | apply b2_ | apply b3_) | exact HB.out)⟩⟩
     ·
      replace c9 := Bool.eq_false_iff.mpr c9
      subst c9
      have H1 : (laws_FnWriteWords.j1 kj3 l0 a1 l2 true) = some r := by rw [if_neg (show ¬ (false = true) by decide)] at H; exact H
      clear H
      have H := H1
      clear H1
      have H' := a0_ H
      clear H
      go_wp2_with (first | ((with_reducible refine gate_callee (f := 6) rfl ?_); refine goesL_ (some 26) rfl rfl Tryd.func6 (by kernel_rfl) rfl #[.slice A0 l0.length c0, .int .i64 a1, .int .i64 (l2.length : Int)] rfl (by (try simp only [List.map_toArray, List.map_cons, List.map_nil]); first | done | rfl | (simp only [List.length_drop, List.length_take]; rfl)) ?_; (with_reducible refine (laws_within.calls _ _ l0 a1 (l2.length : Int) false _ ?side1 ?side2 A8.out).mono ?_); (case side1 => repeat (first | exact (Kd.C_below HR0.out HB.out) | (with_reducible refine Kd.C_alloc ?_ _) | (with_reducible refine Kd.C_drewN ?_ _) | (with_reducible refine Kd.C_drew ?_))); (case side2 => exact HC0.out); rintro e w' ⟨rfl, ⟨nd, rfl⟩⟩; refine ⟨_, rfl, ?_⟩))
      go_meet
      case rel => exact ⟨_, (true), (by first | rfl | (simp; done) | (simp [*]; done)), H', ⟨by have := HJ3.out; first | omega | exact Nat.le_refl _⟩, ⟨by repeat (first | (with_reducible first | exact HB.out | apply b1_ | apply b2_ | apply b3_) | exact HB.out)⟩⟩
    case rest =>
     clear HC7
     try clear c2
     try clear p2
     try clear c3
     try clear c5
     try clear c5b0
     try clear c5b1
     try clear c6
     try clear c9
     try clear p2
     obtain ⟨kq, x32_6, rfl, HA, HJ6, HB⟩ := hcut
     cases kq with
     | zero => exact absurd HA.out (by simp [laws_FnWriteWords.j1])
     | succ kj6 =>
      have H := HA.out
      clear HA
      simp only [laws_FnWriteWords.j1] at H
      by_cases c10 : x32_6 = true
      ·
       subst c10
       have H1 : (some true) = some r := by rw [if_pos rfl] at H; exact H
       clear H
       have H := H1
       clear H1
       obtain rfl := o1_ H
       go_wp2
       go_ret
       exact ⟨by first | rfl | (simp [e1_, e2_] <;> rfl) | (simp [*, e1_, e2_] <;> rfl), by repeat (first | (with_reducible first | exact HB.out | apply b1_ | apply b2_ | apply b3_) | exact HB.out)⟩
      ·
       replace c10 := Bool.eq_false_iff.mpr c10
       subst c10
       have H1 : (laws_FnWriteWords.l0 kj6 l0 a1 l2 ([] : List Int) ([] : List Int) ([] : List Int) 0) = some r := by rw [if_neg (show ¬ (false = true) by decide)] at H; exact H
       clear H
       have H := H1
       clear H1
       have H' := a0_ H
       clear H
       go_wp2
       go_loopg [7, 8, 9, 10] kj6 (fun kq v7 v8 v9 v10 w' => ∃ (x7_3 : List Int) (x8_3 : List Int) (x9_3 : List Int) (x10_3 : Int), v10 = .int .i64 x10_3 ∧ Aside0 (laws_FnWriteWords.l0 kq l0 a1 l2 x7_3 x8_3 x9_3 x10_3 = some r) ∧ Aside0 (kq ≤ kj6) ∧ Aside0 (Kd.R (Kd.int .u64) 27 w' w.heap.size (fun _ => True) v7 x7_3) ∧ Aside0 (Kd.R (Kd.int .u8) 5 w' w.heap.size (fun _ => True) v8 x8_3) ∧ Aside0 (Kd.R (Kd.int .i64) 3 w' w.heap.size (fun _ => True) v9 x9_3) ∧ Aside0 (Below w.heap.size w w'))
       case atStart => exact ⟨(([] : List Int)), (([] : List Int)), (([] : List Int)), (0), (by first | rfl | (simp; done) | (simp [*]; done)), H', ⟨Nat.le_refl _⟩, ⟨by first | exact Kd.R_nil _ _ _ _ _ | exact Kd.N_nil _ _ _ _ _ | exact Kd.V_nil _ _ _ _ _ | exact Kd.Q_nil _ _ _ _ _ | exact Kd.S_nil _ _ _ _ _⟩, ⟨by first | exact Kd.R_nil _ _ _ _ _ | exact Kd.N_nil _ _ _ _ _ | exact Kd.V_nil _ _ _ _ _ | exact Kd.Q_nil _ _ _ _ _ | exact Kd.S_nil _ _ _ _ _⟩, ⟨by first | exact Kd.R_nil _ _ _ _ _ | exact Kd.N_nil _ _ _ _ _ | exact Kd.V_nil _ _ _ _ _ | exact Kd.Q_nil _ _ _ _ _ | exact Kd.S_nil _ _ _ _ _⟩, ⟨by repeat (first | (with_reducible first | exact HB.out | apply b1_ | apply b2_ | apply b3_) | exact HB.out)⟩⟩
       case round =>
        clear H'
        try clear c1
        try clear c2
        try clear p2
        try clear c3
        try clear c5
        try clear c5b0
        try clear c5b1
        try clear c6
        try clear c9
        try clear c10
        try clear p2
        obtain ⟨x7_3, x8_3, x9_3, x10_3, rfl, HA, HK3, HO_7, HO_8, HO_9, HB⟩ := hrel
        cases gk with
        | zero => exact absurd HA.out (by simp [laws_FnWriteWords.l0])
        | succ k3 =>
         have H := HA.out
         clear HA
         simp only [laws_FnWriteWords.l0] at H
         by_cases c11 : x10_3 < (l2.length : Int)
         ·
          rw [if_pos c11] at H
          have c11b0 : decide (x10_3 < (l2.length : Int)) = true := d2_ c11
          clear c11
          have HC12 := a0_ H
          clear H
          go_upto_region 10 with (fail)
          go_cut [53] (fun v53 wc => ∃ (kq : Nat) (x53_11 : Bool), v53 = .bool x53_11 ∧ Aside0 (laws_FnWriteWords.j3 kq l0 a1 l2 x7_3 x8_3 x9_3 x10_3 x53_11 = some r) ∧ Aside0 (kq ≤ k3) ∧ Aside0 (Kd.R (Kd.int .u64) 27 wc w.heap.size (fun _ => True) u7 x7_3) ∧ Aside0 (Kd.R (Kd.int .u8) 5 wc w.heap.size (fun _ => True) u8 x8_3) ∧ Aside0 (Kd.R (Kd.int .i64) 3 wc w.heap.size (fun _ => True) u9 x9_3) ∧ Aside0 (Below w.heap.size w wc))
          case first =>
           have H := HC12.out
           clear HC12
           by_cases c13 : (wrap64 ((l2.length : Int) - x10_3)) ≥ 128
           ·
            rw [if_pos c13] at H
            have c13b0 : decide (128 ≤ (wrap64 ((l2.length : Int) - x10_3))) = true := d2_ c13
            clear c13
            (first | rw [c13b0] | (simp only [i64_w, i32_w]; rw [c13b0]) | skip)
            have H' := a0_ H
            clear H
            go_wp2
            go_meet
            case rel => exact ⟨_, (true), (by first | rfl | (simp; done) | (simp [*]; done)), H', ⟨by have := HJ3.out; have := HJ6.out; have := HK3.out; first | omega | exact Nat.le_refl _⟩, ⟨by (with_reducible repeat (first | apply r1_ | apply r2_ | apply r3_)); exact HO_7.out⟩, ⟨by (with_reducible repeat (first | apply r1_ | apply r2_ | apply r3_)); exact HO_8.out⟩, ⟨by (with_reducible repeat (first | apply r1_ | apply r2_ | apply r3_)); exact HO_9.out⟩, ⟨by repeat (first | (with_reducible first | exact HB.out | apply b1_ | apply b2_ | apply b3_) | exact HB.out)⟩⟩
           ·
            rw [if_neg c13] at H
            have c13b0 : decide (128 ≤ (wrap64 ((l2.length : Int) - x10_3))) = false := d3_ c13
            clear c13
            (first | rw [c13b0] | (simp only [i64_w, i32_w]; rw [c13b0]) | skip)
            by_cases c14 : (Int.tmod a1 8) = 0
            ·
             rw [if_pos c14] at H
             have c14b0 : ((Int.tmod a1 8) == 0) = true := beq_iff_eq.mpr c14
             have c14b1 : ((Int.tmod a1 8) != 0) = false := bne_eq_false_iff_eq.mpr c14
             clear c14
             have H' := a0_ H
             clear H
             go_wp2
             go_meet
             case rel => exact ⟨_, (decide ((wrap64 ((l2.length : Int) - x10_3)) ≥ 64)), (by first | rfl | (simp; done) | (simp [*]; done)), H', ⟨by have := HJ3.out; have := HJ6.out; have := HK3.out; first | omega | exact Nat.le_refl _⟩, ⟨by (with_reducible repeat (first | apply r1_ | apply r2_ | apply r3_)); exact HO_7.out⟩, ⟨by (with_reducible repeat (first | apply r1_ | apply r2_ | apply r3_)); exact HO_8.out⟩, ⟨by (with_reducible repeat (first | apply r1_ | apply r2_ | apply r3_)); exact HO_9.out⟩, ⟨by repeat (first | (with_reducible first | exact HB.out | apply b1_ | apply b2_ | apply b3_) | exact HB.out)⟩⟩
            ·
             rw [if_neg c14] at H
             have c14b0 : ((Int.tmod a1 8) == 0) = false := beq_eq_false_iff_ne.mpr c14
             have c14b1 : ((Int.tmod a1 8) != 0) = true := bne_iff_ne.mpr c14
             have H' := a0_ H
             clear H
             go_wp2
             go_meet
             case rel => exact ⟨_, (false), (by first | rfl | (simp; done) | (simp [*]; done)), H', ⟨by have := HJ3.out; have := HJ6.out; have := HK3.out; first | omega | exact Nat.le_refl _⟩, ⟨by (with_reducible repeat (first | apply r1_ | apply r2_ | apply r3_)); exact HO_7.out⟩, ⟨by (with_reducible repeat (first | apply r1_ | apply r2_ | apply r3_)); exact HO_8.out⟩, ⟨by (with_reducible repeat (first | apply r1_ | apply r2_ | apply r3_)); exact HO_9.out⟩, ⟨by repeat (first | (with_reducible first | exact HB.out | apply b1_ | apply b2_ | apply b3_) | exact HB.out)⟩⟩
          case rest =>
           clear HC12
           try clear c1
           try clear c2
           try clear p2
           try clear c3
           try clear c5
           try clear c5b0
           try clear c5b1
           try clear c6
           try clear p6
           try clear c9
           try clear c10
           try clear c11
           try clear c11b0
           try clear c13
           try clear c13b0
           try clear c14
           try clear c14b0
           try clear c14b1
           try clear p2
           obtain ⟨kq, x53_11, rfl, HA, HJ11, HO_7, HO_8, HO_9, HB⟩ := hcut
           cases kq with
           | zero => exact absurd HA.out (by simp [laws_FnWriteWords.j3])
           | succ kj11 =>
            have H := HA.out
            clear HA
            simp only [laws_FnWriteWords.j3] at H
            by_cases c15 : x53_11 = true
            ·
             subst c15
             have H1 : (laws_FnWriteWords.l1 kj11 l0 a1 l2 x7_3 x8_3 x9_3 x10_3 0 0) = some r := by rw [if_pos rfl] at H; exact H
             clear H
             have H := H1
             clear H1
             have H' := a0_ H
             clear H
             go_wp2
             go_loopg [11, 54] kj11 (fun kq v11 v54 w' => ∃ (x11_5 : Int) (x54_5 : Int), v11 = .int .u64 x11_5 ∧ v54 = .int .i64 x54_5 ∧ Aside0 (laws_FnWriteWords.l1 kq l0 a1 l2 x7_3 x8_3 x9_3 x10_3 x11_5 x54_5 = some r) ∧ Aside0 (kq ≤ kj11) ∧ Aside0 (Kd.R (Kd.int .u64) 27 w' w.heap.size (fun _ => True) u7 x7_3) ∧ Aside0 (Kd.R (Kd.int .u8) 5 w' w.heap.size (fun _ => True) u8 x8_3) ∧ Aside0 (Kd.R (Kd.int .i64) 3 w' w.heap.size (fun _ => True) u9 x9_3) ∧ Aside0 (Below w.heap.size w w'))
             case atStart => exact ⟨(0), (0), (by first | rfl | (simp; done) | (simp [*]; done)), (by first | rfl | (simp; done) | (simp [*]; done)), H', ⟨Nat.le_refl _⟩, ⟨by (with_reducible repeat (first | apply r1_ | apply r2_ | apply r3_)); exact HO_7.out⟩, ⟨by (with_reducible repeat (first | apply r1_ | apply r2_ | apply r3_)); exact HO_8.out⟩, ⟨by (with_reducible repeat (first | apply r1_ | apply r2_ | apply r3_)); exact HO_9.out⟩, ⟨by repeat (first | (with_reducible first | exact HB.out | apply b1_ | apply b2_ | apply b3_) | exact HB.out)⟩⟩
             case round =>
              clear H'
              try clear c1
              try clear c2
              try clear p2
              try clear c3
              try clear c5
              try clear c5b0
              try clear c5b1
              try clear c6
              try clear p6
              try clear c9
              try clear c10
              try clear c11
              try clear c11b0
              try clear c13
              try clear c13b0
              try clear c14
              try clear c14b0
              try clear c14b1
              try clear c15
              try clear p2
              try clear p6
              obtain ⟨x11_5, x54_5, rfl, rfl, HA, HK5, HO_7, HO_8, HO_9, HB⟩ := hrel
              cases gk with
              | zero => exact absurd HA.out (by simp [laws_FnWriteWords.l1])
              | succ k5 =>
               have H := HA.out
               clear HA
               simp only [laws_FnWriteWords.l1] at H
               by_cases c16 : x54_5 < 64
               ·
                rw [if_pos c16] at H
                have c16b0 : decide (x54_5 < 64) = true := d2_ c16
                clear c16
                obtain ⟨ji17, hji17⟩ : ∃ j_ : Int, (wrap64 (x10_3 + x54_5)) = j_ := ⟨_, rfl⟩
                replace H : (if 0 ≤ (ji17) then (if (ji17) < (l2.length : Int) then (if rdOf false l2 (ji17) = true then (if 0 ≤ x54_5 then (laws_FnWriteWords.l1 k5 l0 a1 l2 x7_3 x8_3 x9_3 x10_3 (Go.bits .or .u64 x11_5 (shl .u64 1 x54_5)) (wrap64 (x54_5 + 1))) else (none)) else (laws_FnWriteWords.l1 k5 l0 a1 l2 x7_3 x8_3 x9_3 x10_3 x11_5 (wrap64 (x54_5 + 1)))) else (none)) else (none)) = some r := by first | (rw [hji17] at H; exact H) | (simp only [hji17] at H ⊢; exact H)
                have hji17w : (IntKind.i64.wrap (x10_3 + x54_5)) = ji17 := (i64_w _).trans hji17
                by_cases c18 : 0 ≤ (ji17)
                ·
                 rw [if_pos c18] at H
                 have c18b0 : decide (0 ≤ (ji17)) = true := d2_ c18
                 clear c18
                 by_cases c19 : (ji17) < (l2.length : Int)
                 ·
                  rw [if_pos c19] at H
                  have c19b0 : decide ((ji17) < (l2.length : Int)) = true := d2_ c19
                  clear c19
                  obtain ⟨bq20, hbq20⟩ : ∃ b_ : Bool, b_ = (rdOf false l2 (ji17)) := ⟨_, rfl⟩
                  replace H : (if bq20 = true then (if 0 ≤ x54_5 then (laws_FnWriteWords.l1 k5 l0 a1 l2 x7_3 x8_3 x9_3 x10_3 (Go.bits .or .u64 x11_5 (shl .u64 1 x54_5)) (wrap64 (x54_5 + 1))) else (none)) else (laws_FnWriteWords.l1 k5 l0 a1 l2 x7_3 x8_3 x9_3 x10_3 x11_5 (wrap64 (x54_5 + 1)))) = some r := by rw [← hbq20] at H; exact H
                  have Nbq20 := a0_ hbq20
                  clear hbq20
                  by_cases c21 : bq20 = true
                  ·
                   subst c21
                   have H1 : (if 0 ≤ x54_5 then (laws_FnWriteWords.l1 k5 l0 a1 l2 x7_3 x8_3 x9_3 x10_3 (Go.bits .or .u64 x11_5 (shl .u64 1 x54_5)) (wrap64 (x54_5 + 1))) else (none)) = some r := by rw [if_pos rfl] at H; exact H
                   clear H
                   have H := H1
                   clear H1
                   by_cases c22 : 0 ≤ x54_5
                   ·
                    rw [if_pos c22] at H
                    have c22b0 := eq_true c22
                    have c22b1 : decide (0 ≤ x54_5) = true := d2_ c22
                    clear c22
                    obtain ⟨ji23, hji23⟩ : ∃ j_ : Int, (shl .u64 1 x54_5) = j_ := ⟨_, rfl⟩
                    replace H : (laws_FnWriteWords.l1 k5 l0 a1 l2 x7_3 x8_3 x9_3 x10_3 (Go.bits .or .u64 x11_5 (ji23)) (wrap64 (x54_5 + 1))) = some r := by first | (rw [hji23] at H; exact H) | (simp only [hji23] at H ⊢; exact H)
                    have hji23_ : (IntKind.u64.wrap (1 * 2 ^ min x54_5.toNat 64)) = ji23 := hji23
                    have hji23z : x54_5 ≤ 64 → (IntKind.u64.wrap (1 * 2 ^ x54_5.toNat)) = ji23 := shl_small hji23
                    have hji23u : (IntKind.u64.wrap (2 ^ min x54_5.toNat 64)) = ji23 := by have h_ := hji23_; rw [Int.one_mul] at h_; exact h_
                    have hji23v : x54_5 ≤ 64 → (IntKind.u64.wrap (2 ^ x54_5.toNat)) = ji23 := fun hle_ => by have h_ := hji23z hle_; rw [Int.one_mul] at h_; exact h_
                    have H' := a0_ H
                    clear H
                    have p135 : 0 ≤ ((ji17) : Int) := d1_ (by first | (with_reducible assumption) | assumption)
                    have q135 : (ji17) < (l2.length : Int) := d1_ (by first | (with_reducible assumption) | assumption)
                    obtain ⟨ad135, e135, hx135_0⟩ := Kd.at_bool HR2.out (ji17) p135 q135
                    (try rw [← Nbq20.out] at hx135_0)
                    cases e135
                    replace hx135_0 := (HB.out.cell (World.block_lt_of_cell? w _ hx135_0)).trans hx135_0
                    replace p135 := eq_true p135
                    replace q135 := eq_true q135
                    go_wp2
                    go_roundg k5
                    case measure => have := HJ3.out; have := HJ6.out; have := HK3.out; have := HJ11.out; have := HK5.out; omega
                    case rel => exact ⟨(Go.bits .or .u64 x11_5 (ji23)), (wrap64 (x54_5 + 1)), (by first | rfl | (simp; done) | (simp only [← hji23] <;> (first | rfl | simp)) | (simp [*]; done)), (by first | rfl | (simp; done) | (simp [*]; done)), H', ⟨by have := HJ3.out; have := HJ6.out; have := HK3.out; have := HJ11.out; have := HK5.out; omega⟩, ⟨by (with_reducible repeat (first | apply r1_ | apply r2_ | apply r3_)); exact HO_7.out⟩, ⟨by (with_reducible repeat (first | apply r1_ | apply r2_ | apply r3_)); exact HO_8.out⟩, ⟨by (with_reducible repeat (first | apply r1_ | apply r2_ | apply r3_)); exact HO_9.out⟩, ⟨by repeat (first | (with_reducible first | exact HB.out | apply b1_ | apply b2_ | apply b3_) | exact HB.out)⟩⟩
                   ·
                    rw [if_neg c22] at H
                    exact absurd H (by simp)
                  ·
                   replace c21 := Bool.eq_false_iff.mpr c21
                   subst c21
                   have H1 : (laws_FnWriteWords.l1 k5 l0 a1 l2 x7_3 x8_3 x9_3 x10_3 x11_5 (wrap64 (x54_5 + 1))) = some r := by rw [if_neg (show ¬ (false = true) by decide)] at H; exact H
                   clear H
                   have H := H1
                   clear H1
                   have H' := a0_ H
                   clear H
                   have p135 : 0 ≤ ((ji17) : Int) := d1_ (by first | (with_reducible assumption) | assumption)
                   have q135 : (ji17) < (l2.length : Int) := d1_ (by first | (with_reducible assumption) | assumption)
                   obtain ⟨ad135, e135, hx135_0⟩ := Kd.at_bool HR2.out (ji17) p135 q135
                   (try rw [← Nbq20.out] at hx135_0)
                   cases e135
                   replace hx135_0 := (HB.out.cell (World.block_lt_of_cell? w _ hx135_0)).trans hx135_0
                   replace p135 := eq_true p135
                   replace q135 := eq_true q135
                   go_wp2
                   go_roundg k5
                   case measure => have := HJ3.out; have := HJ6.out; have := HK3.out; have := HJ11.out; have := HK5.out; omega
                   case rel => exact ⟨(x11_5), (wrap64 (x54_5 + 1)), (by first | rfl | (simp; done) | (simp [*]; done)), (by first | rfl | (simp; done) | (simp [*]; done)), H', ⟨by have := HJ3.out; have := HJ6.out; have := HK3.out; have := HJ11.out; have := HK5.out; omega⟩, ⟨by (with_reducible repeat (first | apply r1_ | apply r2_ | apply r3_)); exact HO_7.out⟩, ⟨by (with_reducible repeat (first | apply r1_ | apply r2_ | apply r3_)); exact HO_8.out⟩, ⟨by (with_reducible repeat (first | apply r1_ | apply r2_ | apply r3_)); exact HO_9.out⟩, ⟨by repeat (first | (with_reducible first | exact HB.out | apply b1_ | apply b2_ | apply b3_) | exact HB.out)⟩⟩
                 ·
                  rw [if_neg c19] at H
                  exact absurd H (by simp)
                ·
                 rw [if_neg c18] at H
                 exact absurd H (by simp)
               ·
                rw [if_neg c16] at H
                have c16b0 : decide (x54_5 < 64) = false := d3_ c16
                clear c16
                by_cases c24 : x7_3.length < 17592186044416
                ·
                 rw [if_pos c24] at H
                 have LMc24 := a0_ c24
                 clear c24
                 obtain ⟨y136, hy136⟩ : ∃ y_ : List Int, y_ = (x7_3 ++ [x11_5]) := ⟨_, rfl⟩
                 replace H : (laws_FnWriteWords.l0 k5 l0 a1 l2 y136 x8_3 x9_3 (wrap64 (x10_3 + 64))) = some r := by first | (rw [hy136]; with_reducible exact H) | (have H2_ := (o2_ _ _).symm.trans H; rw [hy136]; with_reducible exact H2_) | (have H2_ := (o2_ _ _).symm.trans H; with_reducible exact H2_) | with_reducible exact H | (rw [hy136]; exact H) | exact H
                 have Ny136 := a0_ hy136
                 clear hy136
                 have H' := a0_ H
                 clear H
                 go_wp2_with (first | ((with_reducible refine gate_builtin (b := .append) (xs := #[.tmp 68, .tmp 70]) rfl ?_); (try (refine gate_guard (by rfl) ?_; dsimp only)); at_builtin; refine Kd.R_append (Kd.int .u64) (w0 := w) w.heap.size rfl (.tmp 68) (.tmp 70) 25 27 (.int .u64 0) 8 rfl Tryd.underlying25 info27 rfl (by decide) (by omega) u7 x7_3 x11_5 [.int .u64 x11_5] (fun _ => True) (fun _ => False) rfl rfl ?aP (fun _ hk => hk.elim) ?aF ?aO ?aB ?aS ?aL ?_; (case aP => exact rfl); (case aB => exact (by repeat (first | (with_reducible first | exact HB.out | apply b1_ | apply b2_ | apply b3_) | exact HB.out))); (case aF => exact (fun _ _ => trivial)); (case aO => exact (by (with_reducible repeat (first | apply r1_ | apply r2_ | apply r3_)); exact HO_7.out)); (case aS => exact (below_size (by repeat (first | (with_reducible first | exact HB.out | apply b1_ | apply b2_ | apply b3_) | exact HB.out)))); (case aL => have := LMc24.out; omega); intro v137 w25 ho hb hg hat; rw [← Ny136.out] at ho; have n0_ := a0_ (Kd.R_over' (by (with_reducible repeat (first | apply r1_ | apply r2_ | apply r3_)); exact HO_8.out) (Kd.R_typed (by (with_reducible repeat (first | apply r1_ | apply r2_ | apply r3_)); exact HO_7.out)) (by decide) hg); have n1_ := a0_ (Kd.R_over' (by (with_reducible repeat (first | apply r1_ | apply r2_ | apply r3_)); exact HO_9.out) (Kd.R_typed (by (with_reducible repeat (first | apply r1_ | apply r2_ | apply r3_)); exact HO_7.out)) (by decide) hg); have n2_ := a0_ (hb); have n3_ := a0_ (ho); clear HO_8; clear HO_9; clear HB; clear HO_7; have HO_8 := n0_; have HO_9 := n1_; have HB := n2_; have HO138 := n3_; clear n0_ n1_ n2_ n3_; clear ho hb hg hat))
                 go_roundg k5
                 case measure => have := HJ3.out; have := HJ6.out; have := HK3.out; have := HJ11.out; have := HK5.out; omega
                 case rel => exact ⟨(y136), (x8_3), (x9_3), (wrap64 (x10_3 + 64)), (by first | rfl | (simp; done) | (simp [*]; done)), H', ⟨by have := HJ3.out; have := HJ6.out; have := HK3.out; have := HJ11.out; have := HK5.out; omega⟩, ⟨by (with_reducible repeat (first | apply r1_ | apply r2_ | apply r3_)); exact HO138.out⟩, ⟨by (with_reducible repeat (first | apply r1_ | apply r2_ | apply r3_)); exact HO_8.out⟩, ⟨by (with_reducible repeat (first | apply r1_ | apply r2_ | apply r3_)); exact HO_9.out⟩, ⟨by repeat (first | (with_reducible first | exact HB.out | apply b1_ | apply b2_ | apply b3_) | exact HB.out)⟩⟩
                ·
                 rw [if_neg c24] at H
                 exact absurd H (by simp)
            ·
             replace c15 := Bool.eq_false_iff.mpr c15
             subst c15
             have H1 : (if 0 ≤ x10_3 then (if x10_3 ≤ (wrap64 (x10_3 + (mn 8 (wrap64 ((l2.length : Int) - x10_3))))) then (if (wrap64 (x10_3 + (mn 8 (wrap64 ((l2.length : Int) - x10_3))))) ≤ (l2.length : Int) then ((spec_Packed.f kj11 ((l2.take ((wrap64 (x10_3 + (mn 8 (wrap64 ((l2.length : Int) - x10_3))))) : Int).toNat).drop (x10_3 : Int).toNat) 0).bind fun t140 => (if 0 < (t140.length : Int) then (if x8_3.length < 140737488355328 then (if x9_3.length < 17592186044416 then (laws_FnWriteWords.l0 kj11 l0 a1 l2 x7_3 (x8_3 ++ [rd t140 0]) (x9_3 ++ [mn 8 (wrap64 ((l2.length : Int) - x10_3))]) (wrap64 (x10_3 + (mn 8 (wrap64 ((l2.length : Int) - x10_3)))))) else (none)) else (none)) else (none))) else (none)) else (none)) else (none)) = some r := by rw [if_neg (show ¬ (false = true) by decide)] at H; exact H
             clear H
             have H := H1
             clear H1
             obtain ⟨ji26, hji26⟩ : ∃ j_ : Int, (mn 8 (wrap64 ((l2.length : Int) - x10_3))) = j_ := ⟨_, rfl⟩
             replace H : (if 0 ≤ x10_3 then (if x10_3 ≤ (wrap64 (x10_3 + (ji26))) then (if (wrap64 (x10_3 + (ji26))) ≤ (l2.length : Int) then ((spec_Packed.f kj11 ((l2.take ((wrap64 (x10_3 + (ji26))) : Int).toNat).drop (x10_3 : Int).toNat) 0).bind fun t140 => (if 0 < (t140.length : Int) then (if x8_3.length < 140737488355328 then (if x9_3.length < 17592186044416 then (laws_FnWriteWords.l0 kj11 l0 a1 l2 x7_3 (x8_3 ++ [rd t140 0]) (x9_3 ++ [ji26]) (wrap64 (x10_3 + (ji26)))) else (none)) else (none)) else (none))) else (none)) else (none)) else (none)) = some r := by first | (rw [hji26] at H; exact H) | (simp only [hji26] at H ⊢; exact H)
             have hji26_ : (if (wrap64 ((l2.length : Int) - x10_3)) < 8 then (wrap64 ((l2.length : Int) - x10_3)) else 8) = ji26 := hji26
             by_cases c27 : 0 ≤ x10_3
             ·
              rw [if_pos c27] at H
              have c27b0 := eq_true c27
              have c27b1 : decide (0 ≤ x10_3) = true := d2_ c27
              clear c27
              by_cases c28 : x10_3 ≤ (wrap64 (x10_3 + (ji26)))
              ·
               rw [if_pos c28] at H
               have c28b0 := eq_true c28
               have c28b1 : decide (x10_3 ≤ (wrap64 (x10_3 + (ji26)))) = true := d2_ c28
               by_cases c29 : (wrap64 (x10_3 + (ji26))) ≤ (l2.length : Int)
               ·
                rw [if_pos c29] at H
                have c29b0 := eq_true c29
                have c29b1 : decide ((wrap64 (x10_3 + (ji26))) ≤ (l2.length : Int)) = true := d2_ c29
                replace H := Option.bind_eq_some_iff.mp H
                obtain ⟨t140, A300, H⟩ := H
                replace H : (if 0 < (t140.length : Int) then (if x8_3.length < 140737488355328 then (if x9_3.length < 17592186044416 then (laws_FnWriteWords.l0 kj11 l0 a1 l2 x7_3 (x8_3 ++ [rd t140 0]) (x9_3 ++ [ji26]) (wrap64 (x10_3 + (ji26)))) else (none)) else (none)) else (none)) = some r := H
                have A30 := a0_ A300
                clear A300
                by_cases c31 : 0 < (t140.length : Int)
                ·
                 rw [if_pos c31] at H
                 have c31b0 : decide (0 < (t140.length : Int)) = true := d2_ c31
                 have c31b1 : decide (0 < t140.length) = true := d2_ (by omega)
                 clear c31
                 by_cases c32 : x8_3.length < 140737488355328
                 ·
                  rw [if_pos c32] at H
                  have LMc32 := a0_ c32
                  clear c32
                  obtain ⟨y144, hy144⟩ : ∃ y_ : List Int, y_ = (x8_3 ++ [rd t140 0]) := ⟨_, rfl⟩
                  replace H : (if x9_3.length < 17592186044416 then (laws_FnWriteWords.l0 kj11 l0 a1 l2 x7_3 y144 (x9_3 ++ [ji26]) (wrap64 (x10_3 + (ji26)))) else (none)) = some r := by first | (rw [hy144]; with_reducible exact H) | (have H2_ := (o2_ _ _).symm.trans H; rw [hy144]; with_reducible exact H2_) | (have H2_ := (o2_ _ _).symm.trans H; with_reducible exact H2_) | with_reducible exact H | (rw [hy144]; exact H) | exact H
                  have Ny144 := a0_ hy144
                  clear hy144
                  by_cases c33 : x9_3.length < 17592186044416
                  ·
                   rw [if_pos c33] at H
                   have LMc33 := a0_ c33
                   clear c33
                   obtain ⟨y147, hy147⟩ : ∃ y_ : List Int, y_ = (x9_3 ++ [ji26]) := ⟨_, rfl⟩
                   replace H : (laws_FnWriteWords.l0 kj11 l0 a1 l2 x7_3 y144 y147 (wrap64 (x10_3 + (ji26)))) = some r := by first | (rw [hy147]; with_reducible exact H) | (have H2_ := (o2_ _ _).symm.trans H; rw [hy147]; with_reducible exact H2_) | (have H2_ := (o2_ _ _).symm.trans H; with_reducible exact H2_) | with_reducible exact H | (rw [hy147]; exact H) | exact H
                   have Ny147 := a0_ hy147
                   clear hy147
                   have H' := a0_ H
                   clear H
                   obtain ⟨i034, hi034, _, hsz34, _⟩ := info_parts info4
                   obtain ⟨A34, hcut34, hA34, hC34⟩ := print_mid_of (P := Tryd.prog) Value.bool false 23 4 .i64 .i64 Tryd.underlying23 hi034 hsz34 A2 c2 l2 x10_3 (wrap64 (x10_3 + (ji26))) (d1_ (by first | (with_reducible assumption) | assumption)) (by first | omega | exact d1_ (by first | (with_reducible assumption) | assumption)) (d1_ (by first | (with_reducible assumption) | assumption)) HC2.out
                   have HR139 := a0_ (Kd.C_of_reads (h1 := fun _ => rfl) (hA34 _ (Kd.reads_of_C HR2.out)))
                   have HC139 := a0_ hC34
                   clear hA34 hC34 hi034 hsz34
                   go_wp2_with (first | ((with_reducible refine gate_callee (f := 7) rfl ?_); refine goesL_ (some 86) rfl rfl Tryd.func7 (by kernel_rfl) rfl #[.slice A34 ((l2.take ((wrap64 (x10_3 + (ji26))) : Int).toNat).drop (x10_3 : Int).toNat).length (c2 - x10_3.toNat), .int .i64 0] rfl (by (try simp only [List.map_toArray, List.map_cons, List.map_nil]); first | done | (rw [show ((l2.take ((wrap64 (x10_3 + (ji26))) : Int).toNat).drop (x10_3 : Int).toNat).length = ((wrap64 (x10_3 + (ji26))).toNat - x10_3.toNat) from (by rw [List.length_drop, List.length_take]; have h_ : ((wrap64 (x10_3 + (ji26))) : Int) ≤ (l2.length : Int) := d1_ (by first | (with_reducible assumption) | assumption); omega)] <;> rfl) | (simp only [hji26]; rfl) | rfl | (simp only [List.length_drop, List.length_take]; rfl)) ?_; (with_reducible refine (spec_Packed.calls kj11 _ _ ((l2.take ((wrap64 (x10_3 + (ji26))) : Int).toNat).drop (x10_3 : Int).toNat) 0 t140 _ ?side1 ?side2 A30.out).mono ?_); (case side1 => repeat (first | exact (Kd.C_below HR139.out HB.out) | (with_reducible refine Kd.C_alloc ?_ _) | (with_reducible refine Kd.C_drewN ?_ _) | (with_reducible refine Kd.C_drew ?_))); (case side2 => exact HC139.out); rintro e w35 ⟨v141, rfl, ho0, hb⟩; refine ⟨_, rfl, ?_⟩; have n0_ := a0_ (Kd.R_below (by (with_reducible repeat (first | apply r1_ | apply r2_ | apply r3_)); exact HO_7.out) hb); have n1_ := a0_ (Kd.R_elder' (by (with_reducible repeat (first | apply r1_ | apply r2_ | apply r3_)); exact HO_8.out) (Kd.R_base ho0) hb); have n2_ := a0_ (Kd.R_below (by (with_reducible repeat (first | apply r1_ | apply r2_ | apply r3_)); exact HO_9.out) hb); have n3_ := a0_ (Kd.R_lower (Kd.R_new' ho0 (Kd.R_lt (by (with_reducible repeat (first | apply r1_ | apply r2_ | apply r3_)); exact HO_8.out))) (below_size (by repeat (first | (with_reducible first | exact HB.out | apply b1_ | apply b2_ | apply b3_) | exact HB.out)))); have n4_ := a0_ (below_step (by repeat (first | (with_reducible first | exact HB.out | apply b1_ | apply b2_ | apply b3_) | exact HB.out)) hb); clear HO_7; clear HO_8; clear HO_9; clear HB; have HO_7 := n0_; have HO_8 := n1_; have HO_9 := n2_; have HO142 := n3_; have HB := n4_; clear n0_ n1_ n2_ n3_ n4_; (try clear hb); (try clear hb2); (try clear hk); (try clear hi); (try clear ho0); obtain ⟨Ao36, co36, eo36⟩ := Kd.R_slice HO142.out; subst eo36; have p143 : 0 ≤ (0 : Int) := (by omega); have q143 : 0 < (t140.length : Int) := d1_ (by first | (with_reducible assumption) | assumption); obtain ⟨ad143, e143, hx143_0⟩ := Kd.at_int (Kd.R_reads' HO142.out).2.2 0 p143 q143; cases e143; have qi143 : (0 < t140.length) = True := eq_true (by omega); (try rw [show ((0 : Int)).toNat = 0 from rfl] at hx143_0); (try rw [Addr.add_zero'] at hx143_0); replace p143 := eq_true p143; replace q143 := eq_true q143) | ((with_reducible refine gate_builtin (b := .append) (xs := #[.tmp 79, .tmp 89]) rfl ?_); (try (refine gate_guard (by rfl) ?_; dsimp only)); at_builtin; refine Kd.R_append (Kd.int .u8) (w0 := w) w.heap.size rfl (.tmp 79) (.tmp 89) 22 5 (.int .u8 0) 1 rfl Tryd.underlying22 info5 rfl (by decide) (by omega) u8 x8_3 (rd t140 0) [.int .u8 (rd t140 0)] (fun k_ => some k_ ≠ (.slice (some ad143) t140.length co36 : Value).ownBlock) (fun _ => False) rfl rfl ?aP (fun _ hk => hk.elim) ?aF ?aO ?aB ?aS ?aL ?_; (case aP => exact rfl); (case aB => exact (by repeat (first | (with_reducible first | exact HB.out | apply b1_ | apply b2_ | apply b3_) | exact HB.out))); (case aF => exact (fun k_ hk => Kd.fresh' (Kd.R_lt (by (with_reducible repeat (first | apply r1_ | apply r2_ | apply r3_)); exact HO142.out)) k_ hk)); (case aO => exact (by (with_reducible repeat (first | apply r1_ | apply r2_ | apply r3_)); exact Kd.R_mono HO_8.out (fun _ hk => hk.2))); (case aS => exact (below_size (by repeat (first | (with_reducible first | exact HB.out | apply b1_ | apply b2_ | apply b3_) | exact HB.out)))); (case aL => have := LMc32.out; omega); intro v145 w37 ho hb hg hat; rw [← Ny144.out] at ho; have n0_ := a0_ (Kd.R_over' (by (with_reducible repeat (first | apply r1_ | apply r2_ | apply r3_)); exact HO_7.out) (Kd.R_typed (by (with_reducible repeat (first | apply r1_ | apply r2_ | apply r3_)); exact HO_8.out)) (by decide) hg); have n1_ := a0_ (Kd.R_over' (by (with_reducible repeat (first | apply r1_ | apply r2_ | apply r3_)); exact HO_9.out) (Kd.R_typed (by (with_reducible repeat (first | apply r1_ | apply r2_ | apply r3_)); exact HO_8.out)) (by decide) hg); have n2_ := a0_ (Kd.R_after (ok := (fun _ => True)) (by (with_reducible repeat (first | apply r1_ | apply r2_ | apply r3_)); exact HO142.out) hg hat); have n3_ := a0_ (hb); have n4_ := a0_ (ho); clear HO_7; clear HO_9; clear HO142; clear HB; clear HO_8; have HO_7 := n0_; have HO_9 := n1_; have HO142 := n2_; have HB := n3_; have HO146 := n4_; clear n0_ n1_ n2_ n3_ n4_; clear ho hb hg hat) | ((with_reducible refine gate_builtin (b := .append) (xs := #[.tmp 91, .tmp 93]) rfl ?_); (try (refine gate_guard (by rfl) ?_; dsimp only)); at_builtin; refine Kd.R_append (Kd.int .i64) (w0 := w) w.heap.size rfl (.tmp 91) (.tmp 93) 26 3 (.int .i64 0) 8 rfl Tryd.underlying26 info3 rfl (by decide) (by omega) u9 x9_3 ji26 [.int .i64 ji26] (fun _ => True) (fun _ => False) rfl rfl ?aP (fun _ hk => hk.elim) ?aF ?aO ?aB ?aS ?aL ?_; (case aP => exact rfl); (case aB => exact (by repeat (first | (with_reducible first | exact HB.out | apply b1_ | apply b2_ | apply b3_) | exact HB.out))); (case aF => exact (fun _ _ => trivial)); (case aO => exact (by (with_reducible repeat (first | apply r1_ | apply r2_ | apply r3_)); exact HO_9.out)); (case aS => exact (below_size (by repeat (first | (with_reducible first | exact HB.out | apply b1_ | apply b2_ | apply b3_) | exact HB.out)))); (case aL => have := LMc33.out; omega); intro v148 w38 ho hb hg hat; rw [← Ny147.out] at ho; have n0_ := a0_ (Kd.R_over' (by (with_reducible repeat (first | apply r1_ | apply r2_ | apply r3_)); exact HO_7.out) (Kd.R_typed (by (with_reducible repeat (first | apply r1_ | apply r2_ | apply r3_)); exact HO_9.out)) (by decide) hg); have n1_ := a0_ (Kd.R_over' (by (with_reducible repeat (first | apply r1_ | apply r2_ | apply r3_)); exact HO142.out) (Kd.R_typed (by (with_reducible repeat (first | apply r1_ | apply r2_ | apply r3_)); exact HO_9.out)) (by decide) hg); have n2_ := a0_ (Kd.R_over' (by (with_reducible repeat (first | apply r1_ | apply r2_ | apply r3_)); exact HO146.out) (Kd.R_typed (by (with_reducible repeat (first | apply r1_ | apply r2_ | apply r3_)); exact HO_9.out)) (by decide) hg); have n3_ := a0_ (hb); have n4_ := a0_ (ho); clear HO_7; clear HO142; clear HO146; clear HB; clear HO_9; have HO_7 := n0_; have HO142 := n1_; have HO146 := n2_; have HB := n3_; have HO149 := n4_; clear n0_ n1_ n2_ n3_ n4_; clear ho hb hg hat))
                   go_roundg kj11
                   case measure => have := HJ3.out; have := HJ6.out; have := HK3.out; have := HJ11.out; omega
                   case rel => exact ⟨(x7_3), (y144), (y147), (wrap64 (x10_3 + (ji26))), (by first | rfl | (simp; done) | (simp only [← hji26] <;> (first | rfl | simp)) | (simp [*]; done)), H', ⟨by have := HJ3.out; have := HJ6.out; have := HK3.out; have := HJ11.out; omega⟩, ⟨by (with_reducible repeat (first | apply r1_ | apply r2_ | apply r3_)); exact HO_7.out⟩, ⟨by (with_reducible repeat (first | apply r1_ | apply r2_ | apply r3_)); exact Kd.R_mono HO146.out (fun _ hk => trivial)⟩, ⟨by (with_reducible repeat (first | apply r1_ | apply r2_ | apply r3_)); exact HO149.out⟩, ⟨by repeat (first | (with_reducible first | exact HB.out | apply b1_ | apply b2_ | apply b3_) | exact HB.out)⟩⟩
                  ·
                   rw [if_neg c33] at H
                   exact absurd H (by simp)
                 ·
                  rw [if_neg c32] at H
                  exact absurd H (by simp)
                ·
                 rw [if_neg c31] at H
                 exact absurd H (by simp)
               ·
                rw [if_neg c29] at H
                exact absurd H (by simp)
              ·
               rw [if_neg c28] at H
               exact absurd H (by simp)
             ·
              rw [if_neg c27] at H
              exact absurd H (by simp)
         ·
          rw [if_neg c11] at H
          have c11b0 : decide (x10_3 < (l2.length : Int)) = false := d3_ c11
          clear c11
          replace H := Option.bind_eq_some_iff.mp H
          obtain ⟨t128, A390, H⟩ := H
          replace H : ((laws_changed.f k3 l0 a1 l2).bind fun t131 => ((laws_same.f t128 t131).bind fun t134 => (some t134))) = some r := H
          have A39 := a0_ A390
          clear A390
          replace H := Option.bind_eq_some_iff.mp H
          obtain ⟨t131, A400, H⟩ := H
          replace H : ((laws_same.f t128 t131).bind fun t134 => (some t134)) = some r := H
          have A40 := a0_ A400
          clear A400
          replace H := Option.bind_eq_some_iff.mp H
          obtain ⟨t134, A410, H⟩ := H
          replace H : (some t134) = some r := H
          have A41 := a0_ A410
          clear A410
          obtain rfl := o1_ H
          obtain ⟨Ao42, co42, eo42⟩ := Kd.R_slice HO_7.out
          subst eo42
          obtain ⟨Ao43, co43, eo43⟩ := Kd.R_slice HO_8.out
          subst eo43
          obtain ⟨Ao44, co44, eo44⟩ := Kd.R_slice HO_9.out
          subst eo44
          go_wp2_with (first | ((with_reducible refine gate_callee (f := 9) rfl ?_); refine goesL_ (some 105) rfl rfl Tryd.func9 (by kernel_rfl) rfl #[.slice A0 l0.length c0, .int .i64 a1, .int .i64 (l2.length : Int), .slice Ao42 x7_3.length co42, .slice Ao43 x8_3.length co43, .slice Ao44 x9_3.length co44] rfl (by (try simp only [List.map_toArray, List.map_cons, List.map_nil]); first | done | rfl | (simp only [List.length_drop, List.length_take]; rfl)) ?_; (with_reducible refine (impl_WriteWords.calls _ _ l0 a1 (l2.length : Int) _ _ x7_3 _ _ x8_3 _ _ x9_3 t128 _ ?side0 ?side1 ?side2 ?side3 ?side4 ?side5 ?side6 ?side7 ?side8 A39.out).mono ?_); (case side0 => exact HTAB.out.below HB.out); (case side1 => repeat (first | exact (Kd.C_below HR0.out HB.out) | (with_reducible refine Kd.C_alloc ?_ _) | (with_reducible refine Kd.C_drewN ?_ _) | (with_reducible refine Kd.C_drew ?_))); (case side2 => exact HC0.out); (case side3 => repeat (first | exact (Kd.R_reads' HO_7.out).2.2 | (with_reducible refine Kd.C_alloc ?_ _) | (with_reducible refine Kd.C_drewN ?_ _) | (with_reducible refine Kd.C_drew ?_))); (case side4 => exact (Kd.R_reads' HO_7.out).2.1); (case side5 => repeat (first | exact (Kd.R_reads' HO_8.out).2.2 | (with_reducible refine Kd.C_alloc ?_ _) | (with_reducible refine Kd.C_drewN ?_ _) | (with_reducible refine Kd.C_drew ?_))); (case side6 => exact (Kd.R_reads' HO_8.out).2.1); (case side7 => repeat (first | exact (Kd.R_reads' HO_9.out).2.2 | (with_reducible refine Kd.C_alloc ?_ _) | (with_reducible refine Kd.C_drewN ?_ _) | (with_reducible refine Kd.C_drew ?_))); (case side8 => exact (Kd.R_reads' HO_9.out).2.1); rintro e w45 ⟨v129, rfl, ho0, hb⟩; refine ⟨_, rfl, ?_⟩; have n0_ := a0_ (Kd.R_below (by (with_reducible repeat (first | apply r1_ | apply r2_ | apply r3_)); exact HO_7.out) hb); have n1_ := a0_ (Kd.R_elder' (by (with_reducible repeat (first | apply r1_ | apply r2_ | apply r3_)); exact HO_8.out) (Kd.R_base ho0) hb); have n2_ := a0_ (Kd.R_below (by (with_reducible repeat (first | apply r1_ | apply r2_ | apply r3_)); exact HO_9.out) hb); have n3_ := a0_ (Kd.R_lower (Kd.R_new' ho0 (Kd.R_lt (by (with_reducible repeat (first | apply r1_ | apply r2_ | apply r3_)); exact HO_8.out))) (below_size (by repeat (first | (with_reducible first | exact HB.out | apply b1_ | apply b2_ | apply b3_) | exact HB.out)))); have n4_ := a0_ (below_step (by repeat (first | (with_reducible first | exact HB.out | apply b1_ | apply b2_ | apply b3_) | exact HB.out)) hb); clear HO_7; clear HO_8; clear HO_9; clear HB; have HO_7 := n0_; have HO_8 := n1_; have HO_9 := n2_; have HO130 := n3_; have HB := n4_; clear n0_ n1_ n2_ n3_ n4_; (try clear hb); (try clear hb2); (try clear hk); (try clear hi); (try clear ho0)) | ((with_reducible refine gate_callee (f := 10) rfl ?_); refine goesL_ (some 109) rfl rfl Tryd.func10 (by kernel_rfl) rfl #[.slice A0 l0.length c0, .int .i64 a1, .slice A2 l2.length c2] rfl (by (try simp only [List.map_toArray, List.map_cons, List.map_nil]); first | done | rfl | (simp only [List.length_drop, List.length_take]; rfl)) ?_; (with_reducible refine (laws_changed.calls k3 _ _ l0 a1 _ _ l2 t131 _ ?side1 ?side2 ?side3 ?side4 A40.out).mono ?_); (case side1 => repeat (first | exact (Kd.C_below HR0.out HB.out) | (with_reducible refine Kd.C_alloc ?_ _) | (with_reducible refine Kd.C_drewN ?_ _) | (with_reducible refine Kd.C_drew ?_))); (case side2 => exact HC0.out); (case side3 => repeat (first | exact (Kd.C_below HR2.out HB.out) | (with_reducible refine Kd.C_alloc ?_ _) | (with_reducible refine Kd.C_drewN ?_ _) | (with_reducible refine Kd.C_drew ?_))); (case side4 => exact HC2.out); rintro e w46 ⟨v132, rfl, ho0, hb⟩; refine ⟨_, rfl, ?_⟩; have n0_ := a0_ (Kd.R_below (by (with_reducible repeat (first | apply r1_ | apply r2_ | apply r3_)); exact HO_7.out) hb); have n1_ := a0_ (Kd.R_elder' (by (with_reducible repeat (first | apply r1_ | apply r2_ | apply r3_)); exact HO_8.out) (Kd.R_base ho0) hb); have n2_ := a0_ (Kd.R_below (by (with_reducible repeat (first | apply r1_ | apply r2_ | apply r3_)); exact HO_9.out) hb); have n3_ := a0_ (Kd.R_elder' (by (with_reducible repeat (first | apply r1_ | apply r2_ | apply r3_)); exact HO130.out) (Kd.R_base ho0) hb); have n4_ := a0_ (Kd.R_lower (Kd.R_new' (Kd.R_new' ho0 (Kd.R_lt (by (with_reducible repeat (first | apply r1_ | apply r2_ | apply r3_)); exact HO_8.out))) (Kd.R_lt (by (with_reducible repeat (first | apply r1_ | apply r2_ | apply r3_)); exact HO130.out))) (below_size (by repeat (first | (with_reducible first | exact HB.out | apply b1_ | apply b2_ | apply b3_) | exact HB.out)))); have n5_ := a0_ (below_step (by repeat (first | (with_reducible first | exact HB.out | apply b1_ | apply b2_ | apply b3_) | exact HB.out)) hb); clear HO_7; clear HO_8; clear HO_9; clear HO130; clear HB; have HO_7 := n0_; have HO_8 := n1_; have HO_9 := n2_; have HO130 := n3_; have HO133 := n4_; have HB := n5_; clear n0_ n1_ n2_ n3_ n4_ n5_; (try clear hb); (try clear hb2); (try clear hk); (try clear hi); (try clear ho0); obtain ⟨Ao47, co47, eo47⟩ := Kd.R_slice HO130.out; subst eo47; obtain ⟨Ao48, co48, eo48⟩ := Kd.R_slice HO133.out; subst eo48) | ((with_reducible refine gate_callee (f := 8) rfl ?_); refine goesL_ (some 110) rfl rfl Tryd.func8 (by kernel_rfl) rfl #[.slice Ao47 t128.length co47, .slice Ao48 t131.length co48] rfl (by (try simp only [List.map_toArray, List.map_cons, List.map_nil]); first | done | rfl | (simp only [List.length_drop, List.length_take]; rfl)) ?_; (with_reducible refine (laws_same.calls _ _ t128 _ _ t131 t134 _ ?side1 ?side2 ?side3 ?side4 A41.out).mono ?_); (case side1 => repeat (first | exact (Kd.R_reads' HO130.out).2.2 | (with_reducible refine Kd.C_alloc ?_ _) | (with_reducible refine Kd.C_drewN ?_ _) | (with_reducible refine Kd.C_drew ?_))); (case side2 => exact (Kd.R_reads' HO130.out).2.1); (case side3 => repeat (first | exact (Kd.R_reads' HO133.out).2.2 | (with_reducible refine Kd.C_alloc ?_ _) | (with_reducible refine Kd.C_drewN ?_ _) | (with_reducible refine Kd.C_drew ?_))); (case side4 => exact (Kd.R_reads' HO133.out).2.1); rintro e w' ⟨rfl, ⟨nd, rfl⟩⟩; refine ⟨_, rfl, ?_⟩))
          go_ret
          exact ⟨by first | rfl | (simp [e1_, e2_] <;> rfl) | (simp [*, e1_, e2_] <;> rfl), by repeat (first | (with_reducible first | exact HB.out | apply b1_ | apply b2_ | apply b3_) | exact HB.out)⟩


end Go.Proofs.YthgbfmcicpmepaaDoor.V
