import Derived.Test.YtbepnloclnjkfaaNV1
import Derived.Test.YtbepnloclnjkfaaN3
namespace Go.Proofs.Ytbepnloclnjkfaa.V
open Go.RowKit Go.Proofs.YtbepnloclnjkfaaW.PrintWords Go.Proofs.YtbepnloclnjkfaaW.PrintLast Go.Proofs.YtbepnloclnjkfaaW.PrintMore
attribute [local go_sem] max2_int min2_int max_two min_two max_three min_three max_four min_four
set_option linter.unusedVariables false
set_option linter.unusedSimpArgs false

/-! ### laws_FnFlatNumber: function 3 -/
mutual
def laws_FnFlatNumber.j0 : Nat → List Int → Int → Bool → Bool → Bool → Option (Bool)
 | 0, _, _, _, _, _ => none
 | k + 1, x0, x1, x2, x3, x35 => if x35 = true then (some true) else ((spec_LittleOf.f k x0).bind fun t190 => (if x3 = true then ((spec_PlainReal.f t190 x1).bind fun t191 => (laws_FnFlatNumber.j1 k x0 x1 x2 x3 t190 (!t191))) else (laws_FnFlatNumber.j1 k x0 x1 x2 x3 t190 false)))
def laws_FnFlatNumber.j1 : Nat → List Int → Int → Bool → Bool → Int → Bool → Option (Bool)
 | 0, _, _, _, _, _, _ => none
 | k + 1, x0, x1, x2, x3, x9, x44 => if x44 = true then (some true) else ((impl_FlatNumberAt.f x0 x1 x2 x3).bind fun bt192 => (if bt192.2.2 = true then (if bt192.1 = x9 then ((laws_same.f bt192.2.1 x0).bind fun t197 => (some t197)) else (some false)) else (some false)))
end
def laws_FnFlatNumber.f (k : Nat) (l0 : List Int) (a1 : Int) (a2 : Bool) (a3 : Bool) : Option (Bool) := if (l0.length : Int) > 2147483647 then (some true) else ((spec_OneOf.f k a1 (([1, 2, 4, 8] : List Int))).bind fun t189 => (if t189 = true then (if (l0.length : Int) = a1 then (if a3 = true then (if a1 < 4 then (laws_FnFlatNumber.j0 k l0 a1 a2 a3 true) else (laws_FnFlatNumber.j0 k l0 a1 a2 a3 a2)) else (laws_FnFlatNumber.j0 k l0 a1 a2 a3 false)) else (laws_FnFlatNumber.j0 k l0 a1 a2 a3 true)) else (laws_FnFlatNumber.j0 k l0 a1 a2 a3 true)))
set_option maxHeartbeats 8000000 in
set_option maxRecDepth 100000 in
theorem laws_FnFlatNumber.calls (k : Nat) (A0 : Option Addr) (c0 : Nat) (l0 : List Int) (a1 : Int) (a2 : Bool) (a3 : Bool) (r : Bool) (w : World) (hr0 : Kd.C (Kd.int .u8) w A0 l0.length l0) (hc0 : l0.length ≤ c0) (h : laws_FnFlatNumber.f k l0 a1 a2 a3 = some r) :
  Calls Try.prog 3 #[.slice A0 l0.length c0, .int .i64 a1, .bool a2, .bool a3] w fun e w' => e = .returned (.bool r) ∧ Below w.heap.size w w' := by
 have HR0 := a0_ hr0
 have HC0 := a0_ hc0
 clear hr0 hc0
 have HB := a0_ (Below.refl w.heap.size w)
 have H : (if (l0.length : Int) > 2147483647 then (some true) else ((spec_OneOf.f k a1 (([1, 2, 4, 8] : List Int))).bind fun t189 => (if t189 = true then (if (l0.length : Int) = a1 then (if a3 = true then (if a1 < 4 then (laws_FnFlatNumber.j0 k l0 a1 a2 a3 true) else (laws_FnFlatNumber.j0 k l0 a1 a2 a3 a2)) else (laws_FnFlatNumber.j0 k l0 a1 a2 a3 false)) else (laws_FnFlatNumber.j0 k l0 a1 a2 a3 true)) else (laws_FnFlatNumber.j0 k l0 a1 a2 a3 true)))) = some r := h
 clear h
 by_cases c5 : (l0.length : Int) > 2147483647
 ·
  rw [if_pos c5] at H
  have c5b0 : decide (2147483647 < (l0.length : Int)) = true := d2_ c5
  have c5b1 : decide (2147483647 < l0.length) = true := d2_ (by omega)
  clear c5
  obtain rfl := o1_ H
  go_enter Try.func3, Try.ntmps3
  go_wp2
  go_ret
  exact ⟨by first | rfl | (simp [e1_, e2_] <;> rfl) | (simp [*, e1_, e2_] <;> rfl), by repeat (first | (with_reducible first | exact HB.out | apply b1_ | apply b2_ | apply b3_) | exact HB.out)⟩
 ·
  rw [if_neg c5] at H
  have c5b0 : decide (2147483647 < (l0.length : Int)) = false := d3_ c5
  have c5b1 : decide (2147483647 < l0.length) = false := d3_ (by omega)
  clear c5
  have HC6 := a0_ H
  clear H
  go_enter Try.func3, Try.ntmps3
  go_upto_region 3 with (fail)
  go_cut [35] (fun v35 wc => ∃ (kq : Nat) (x35_5 : Bool), v35 = .bool x35_5 ∧ Aside0 (laws_FnFlatNumber.j0 kq l0 a1 a2 a3 x35_5 = some r) ∧ Aside0 (kq ≤ k) ∧ Aside0 (Below w.heap.size w wc))
  case first =>
   have H := HC6.out
   clear HC6
   obtain ⟨y186, hy186⟩ : ∃ y_ : List Int, y_ = (([1, 2, 4, 8] : List Int)) := ⟨_, rfl⟩
   replace H : ((spec_OneOf.f k a1 y186).bind fun t189 => (if t189 = true then (if (l0.length : Int) = a1 then (if a3 = true then (if a1 < 4 then (laws_FnFlatNumber.j0 k l0 a1 a2 a3 true) else (laws_FnFlatNumber.j0 k l0 a1 a2 a3 a2)) else (laws_FnFlatNumber.j0 k l0 a1 a2 a3 false)) else (laws_FnFlatNumber.j0 k l0 a1 a2 a3 true)) else (laws_FnFlatNumber.j0 k l0 a1 a2 a3 true))) = some r := by first | (rw [hy186]; with_reducible exact H) | (have H2_ := (o2_ _ _).symm.trans H; rw [hy186]; with_reducible exact H2_) | (have H2_ := (o2_ _ _).symm.trans H; with_reducible exact H2_) | with_reducible exact H | (rw [hy186]; exact H) | exact H
   have Ny186 := a0_ hy186
   clear hy186
   replace H := Option.bind_eq_some_iff.mp H
   obtain ⟨t189, A70, H⟩ := H
   replace H : (if t189 = true then (if (l0.length : Int) = a1 then (if a3 = true then (if a1 < 4 then (laws_FnFlatNumber.j0 k l0 a1 a2 a3 true) else (laws_FnFlatNumber.j0 k l0 a1 a2 a3 a2)) else (laws_FnFlatNumber.j0 k l0 a1 a2 a3 false)) else (laws_FnFlatNumber.j0 k l0 a1 a2 a3 true)) else (laws_FnFlatNumber.j0 k l0 a1 a2 a3 true)) = some r := H
   have A7 := a0_ A70
   clear A70
   by_cases c8 : t189 = true
   ·
    subst c8
    have H1 : (if (l0.length : Int) = a1 then (if a3 = true then (if a1 < 4 then (laws_FnFlatNumber.j0 k l0 a1 a2 a3 true) else (laws_FnFlatNumber.j0 k l0 a1 a2 a3 a2)) else (laws_FnFlatNumber.j0 k l0 a1 a2 a3 false)) else (laws_FnFlatNumber.j0 k l0 a1 a2 a3 true)) = some r := by rw [if_pos rfl] at H; exact H
    clear H
    have H := H1
    clear H1
    by_cases c9 : (l0.length : Int) = a1
    ·
     rw [if_pos c9] at H
     have c9b0 : ((l0.length : Int) == a1) = true := beq_iff_eq.mpr c9
     have c9b1 : ((l0.length : Int) != a1) = false := bne_eq_false_iff_eq.mpr c9
     clear c9
     (first | rw [c9b0] | (simp only [i64_w, i32_w]; rw [c9b0]) | skip)
     by_cases c10 : a3 = true
     ·
      subst c10
      have H1 : (if a1 < 4 then (laws_FnFlatNumber.j0 k l0 a1 a2 true true) else (laws_FnFlatNumber.j0 k l0 a1 a2 true a2)) = some r := by rw [if_pos rfl] at H; exact H
      clear H
      have H := H1
      clear H1
      by_cases c11 : a1 < 4
      ·
       rw [if_pos c11] at H
       have c11b0 : decide (a1 < 4) = true := d2_ c11
       clear c11
       have H' := a0_ H
       clear H
       go_wp2_with (first | ((with_reducible refine gate_dst (N := 17) rfl ?_); (try (refine gate_guard (by rfl) ?_; dsimp only)); refine Kd.R_lit (Kd.int .i64) _ 3 ?hg (N := 17) ?hd (xs := ([1, 2, 4, 8] : List Int)) (inner := [.int .i64 1, .int .i64 2, .int .i64 4, .int .i64 8]) (ok := fun _ => True) (okp := fun _ => True) ?hr ?hp (fun _ hk => hk) trivial (Below.refl _ _) (Nat.le_refl _) (by simp) ?_; (case hd => rfl); (case hg => rfl); (case hr => first | (go_simp; done) | (go_simp; rfl)); (case hp => exact (Reps.one (show Kd.M (Kd.int .i64) _ _ _ 1 [.int .i64 1] from rfl) (Reps.one (show Kd.M (Kd.int .i64) _ _ _ 2 [.int .i64 2] from rfl) (Reps.one (show Kd.M (Kd.int .i64) _ _ _ 4 [.int .i64 4] from rfl) (Reps.one (show Kd.M (Kd.int .i64) _ _ _ 8 [.int .i64 8] from rfl) (Reps.none _ _)))))); intro v187 w12 ho13 hb hg_ hnew_; clear hg_ hnew_; (first | rw [← Ny186.out] at ho13 | (simp only [Int.reduceToNat] at ho13; rw [← Ny186.out] at ho13)); have n0_ := a0_ (Kd.R_lower ho13 (below_size (by repeat (first | (with_reducible first | exact HB.out | apply b1_ | apply b2_ | apply b3_) | exact HB.out)))); have n1_ := a0_ (below_step (by repeat (first | (with_reducible first | exact HB.out | apply b1_ | apply b2_ | apply b3_) | exact HB.out)) hb); clear HB; have HO188 := n0_; have HB := n1_; clear n0_ n1_; clear hb ho13; obtain ⟨Ao14, co14, eo14⟩ := Kd.R_slice HO188.out; subst eo14) | ((with_reducible refine gate_callee (f := 5) rfl ?_); refine goesL_ (some 18) rfl rfl Try.func5 (by kernel_rfl) rfl #[.int .i64 a1, .slice Ao14 y186.length co14] rfl (by (try simp only [List.map_toArray, List.map_cons, List.map_nil]); first | done | rfl | (simp only [List.length_drop, List.length_take]; rfl)) ?_; (with_reducible refine (spec_OneOf.calls k a1 _ _ y186 true _ ?side1 ?side2 A7.out).mono ?_); (case side1 => repeat (first | exact (Kd.R_reads' HO188.out).2.2 | (with_reducible refine Kd.C_alloc ?_ _) | (with_reducible refine Kd.C_drewN ?_ _) | (with_reducible refine Kd.C_drew ?_))); (case side2 => exact (Kd.R_reads' HO188.out).2.1); rintro e w' ⟨rfl, ⟨nd, rfl⟩⟩; refine ⟨_, rfl, ?_⟩))
       go_meet
       case rel => exact ⟨_, (true), (by first | rfl | (simp; done) | (simp [*]; done)), H', ⟨by first | omega | exact Nat.le_refl _⟩, ⟨by repeat (first | (with_reducible first | exact HB.out | apply b1_ | apply b2_ | apply b3_) | exact HB.out)⟩⟩
      ·
       rw [if_neg c11] at H
       have c11b0 : decide (a1 < 4) = false := d3_ c11
       clear c11
       have H' := a0_ H
       clear H
       go_wp2_with (first | ((with_reducible refine gate_dst (N := 17) rfl ?_); (try (refine gate_guard (by rfl) ?_; dsimp only)); refine Kd.R_lit (Kd.int .i64) _ 3 ?hg (N := 17) ?hd (xs := ([1, 2, 4, 8] : List Int)) (inner := [.int .i64 1, .int .i64 2, .int .i64 4, .int .i64 8]) (ok := fun _ => True) (okp := fun _ => True) ?hr ?hp (fun _ hk => hk) trivial (Below.refl _ _) (Nat.le_refl _) (by simp) ?_; (case hd => rfl); (case hg => rfl); (case hr => first | (go_simp; done) | (go_simp; rfl)); (case hp => exact (Reps.one (show Kd.M (Kd.int .i64) _ _ _ 1 [.int .i64 1] from rfl) (Reps.one (show Kd.M (Kd.int .i64) _ _ _ 2 [.int .i64 2] from rfl) (Reps.one (show Kd.M (Kd.int .i64) _ _ _ 4 [.int .i64 4] from rfl) (Reps.one (show Kd.M (Kd.int .i64) _ _ _ 8 [.int .i64 8] from rfl) (Reps.none _ _)))))); intro v187 w15 ho16 hb hg_ hnew_; clear hg_ hnew_; (first | rw [← Ny186.out] at ho16 | (simp only [Int.reduceToNat] at ho16; rw [← Ny186.out] at ho16)); have n0_ := a0_ (Kd.R_lower ho16 (below_size (by repeat (first | (with_reducible first | exact HB.out | apply b1_ | apply b2_ | apply b3_) | exact HB.out)))); have n1_ := a0_ (below_step (by repeat (first | (with_reducible first | exact HB.out | apply b1_ | apply b2_ | apply b3_) | exact HB.out)) hb); clear HB; have HO188 := n0_; have HB := n1_; clear n0_ n1_; clear hb ho16; obtain ⟨Ao17, co17, eo17⟩ := Kd.R_slice HO188.out; subst eo17) | ((with_reducible refine gate_callee (f := 5) rfl ?_); refine goesL_ (some 18) rfl rfl Try.func5 (by kernel_rfl) rfl #[.int .i64 a1, .slice Ao17 y186.length co17] rfl (by (try simp only [List.map_toArray, List.map_cons, List.map_nil]); first | done | rfl | (simp only [List.length_drop, List.length_take]; rfl)) ?_; (with_reducible refine (spec_OneOf.calls k a1 _ _ y186 true _ ?side1 ?side2 A7.out).mono ?_); (case side1 => repeat (first | exact (Kd.R_reads' HO188.out).2.2 | (with_reducible refine Kd.C_alloc ?_ _) | (with_reducible refine Kd.C_drewN ?_ _) | (with_reducible refine Kd.C_drew ?_))); (case side2 => exact (Kd.R_reads' HO188.out).2.1); rintro e w' ⟨rfl, ⟨nd, rfl⟩⟩; refine ⟨_, rfl, ?_⟩))
       go_meet
       case rel => exact ⟨_, (a2), (by first | rfl | (simp; done) | (simp [*]; done)), H', ⟨by first | omega | exact Nat.le_refl _⟩, ⟨by repeat (first | (with_reducible first | exact HB.out | apply b1_ | apply b2_ | apply b3_) | exact HB.out)⟩⟩
     ·
      replace c10 := Bool.eq_false_iff.mpr c10
      subst c10
      have H1 : (laws_FnFlatNumber.j0 k l0 a1 a2 false false) = some r := by rw [if_neg (show ¬ (false = true) by decide)] at H; exact H
      clear H
      have H := H1
      clear H1
      have H' := a0_ H
      clear H
      go_wp2_with (first | ((with_reducible refine gate_dst (N := 17) rfl ?_); (try (refine gate_guard (by rfl) ?_; dsimp only)); refine Kd.R_lit (Kd.int .i64) _ 3 ?hg (N := 17) ?hd (xs := ([1, 2, 4, 8] : List Int)) (inner := [.int .i64 1, .int .i64 2, .int .i64 4, .int .i64 8]) (ok := fun _ => True) (okp := fun _ => True) ?hr ?hp (fun _ hk => hk) trivial (Below.refl _ _) (Nat.le_refl _) (by simp) ?_; (case hd => rfl); (case hg => rfl); (case hr => first | (go_simp; done) | (go_simp; rfl)); (case hp => exact (Reps.one (show Kd.M (Kd.int .i64) _ _ _ 1 [.int .i64 1] from rfl) (Reps.one (show Kd.M (Kd.int .i64) _ _ _ 2 [.int .i64 2] from rfl) (Reps.one (show Kd.M (Kd.int .i64) _ _ _ 4 [.int .i64 4] from rfl) (Reps.one (show Kd.M (Kd.int .i64) _ _ _ 8 [.int .i64 8] from rfl) (Reps.none _ _)))))); intro v187 w18 ho19 hb hg_ hnew_; clear hg_ hnew_; (first | rw [← Ny186.out] at ho19 | (simp only [Int.reduceToNat] at ho19; rw [← Ny186.out] at ho19)); have n0_ := a0_ (Kd.R_lower ho19 (below_size (by repeat (first | (with_reducible first | exact HB.out | apply b1_ | apply b2_ | apply b3_) | exact HB.out)))); have n1_ := a0_ (below_step (by repeat (first | (with_reducible first | exact HB.out | apply b1_ | apply b2_ | apply b3_) | exact HB.out)) hb); clear HB; have HO188 := n0_; have HB := n1_; clear n0_ n1_; clear hb ho19; obtain ⟨Ao20, co20, eo20⟩ := Kd.R_slice HO188.out; subst eo20) | ((with_reducible refine gate_callee (f := 5) rfl ?_); refine goesL_ (some 18) rfl rfl Try.func5 (by kernel_rfl) rfl #[.int .i64 a1, .slice Ao20 y186.length co20] rfl (by (try simp only [List.map_toArray, List.map_cons, List.map_nil]); first | done | rfl | (simp only [List.length_drop, List.length_take]; rfl)) ?_; (with_reducible refine (spec_OneOf.calls k a1 _ _ y186 true _ ?side1 ?side2 A7.out).mono ?_); (case side1 => repeat (first | exact (Kd.R_reads' HO188.out).2.2 | (with_reducible refine Kd.C_alloc ?_ _) | (with_reducible refine Kd.C_drewN ?_ _) | (with_reducible refine Kd.C_drew ?_))); (case side2 => exact (Kd.R_reads' HO188.out).2.1); rintro e w' ⟨rfl, ⟨nd, rfl⟩⟩; refine ⟨_, rfl, ?_⟩))
      go_meet
      case rel => exact ⟨_, (false), (by first | rfl | (simp; done) | (simp [*]; done)), H', ⟨by first | omega | exact Nat.le_refl _⟩, ⟨by repeat (first | (with_reducible first | exact HB.out | apply b1_ | apply b2_ | apply b3_) | exact HB.out)⟩⟩
    ·
     rw [if_neg c9] at H
     have c9b0 : ((l0.length : Int) == a1) = false := beq_eq_false_iff_ne.mpr c9
     have c9b1 : ((l0.length : Int) != a1) = true := bne_iff_ne.mpr c9
     (first | rw [c9b0] | (simp only [i64_w, i32_w]; rw [c9b0]) | skip)
     have H' := a0_ H
     clear H
     go_wp2_with (first | ((with_reducible refine gate_dst (N := 17) rfl ?_); (try (refine gate_guard (by rfl) ?_; dsimp only)); refine Kd.R_lit (Kd.int .i64) _ 3 ?hg (N := 17) ?hd (xs := ([1, 2, 4, 8] : List Int)) (inner := [.int .i64 1, .int .i64 2, .int .i64 4, .int .i64 8]) (ok := fun _ => True) (okp := fun _ => True) ?hr ?hp (fun _ hk => hk) trivial (Below.refl _ _) (Nat.le_refl _) (by simp) ?_; (case hd => rfl); (case hg => rfl); (case hr => first | (go_simp; done) | (go_simp; rfl)); (case hp => exact (Reps.one (show Kd.M (Kd.int .i64) _ _ _ 1 [.int .i64 1] from rfl) (Reps.one (show Kd.M (Kd.int .i64) _ _ _ 2 [.int .i64 2] from rfl) (Reps.one (show Kd.M (Kd.int .i64) _ _ _ 4 [.int .i64 4] from rfl) (Reps.one (show Kd.M (Kd.int .i64) _ _ _ 8 [.int .i64 8] from rfl) (Reps.none _ _)))))); intro v187 w21 ho22 hb hg_ hnew_; clear hg_ hnew_; (first | rw [← Ny186.out] at ho22 | (simp only [Int.reduceToNat] at ho22; rw [← Ny186.out] at ho22)); have n0_ := a0_ (Kd.R_lower ho22 (below_size (by repeat (first | (with_reducible first | exact HB.out | apply b1_ | apply b2_ | apply b3_) | exact HB.out)))); have n1_ := a0_ (below_step (by repeat (first | (with_reducible first | exact HB.out | apply b1_ | apply b2_ | apply b3_) | exact HB.out)) hb); clear HB; have HO188 := n0_; have HB := n1_; clear n0_ n1_; clear hb ho22; obtain ⟨Ao23, co23, eo23⟩ := Kd.R_slice HO188.out; subst eo23) | ((with_reducible refine gate_callee (f := 5) rfl ?_); refine goesL_ (some 18) rfl rfl Try.func5 (by kernel_rfl) rfl #[.int .i64 a1, .slice Ao23 y186.length co23] rfl (by (try simp only [List.map_toArray, List.map_cons, List.map_nil]); first | done | rfl | (simp only [List.length_drop, List.length_take]; rfl)) ?_; (with_reducible refine (spec_OneOf.calls k a1 _ _ y186 true _ ?side1 ?side2 A7.out).mono ?_); (case side1 => repeat (first | exact (Kd.R_reads' HO188.out).2.2 | (with_reducible refine Kd.C_alloc ?_ _) | (with_reducible refine Kd.C_drewN ?_ _) | (with_reducible refine Kd.C_drew ?_))); (case side2 => exact (Kd.R_reads' HO188.out).2.1); rintro e w' ⟨rfl, ⟨nd, rfl⟩⟩; refine ⟨_, rfl, ?_⟩))
     go_meet
     case rel => exact ⟨_, (true), (by first | rfl | (simp; done) | (simp [*]; done)), H', ⟨by first | omega | exact Nat.le_refl _⟩, ⟨by repeat (first | (with_reducible first | exact HB.out | apply b1_ | apply b2_ | apply b3_) | exact HB.out)⟩⟩
   ·
    replace c8 := Bool.eq_false_iff.mpr c8
    subst c8
    have H1 : (laws_FnFlatNumber.j0 k l0 a1 a2 a3 true) = some r := by rw [if_neg (show ¬ (false = true) by decide)] at H; exact H
    clear H
    have H := H1
    clear H1
    have H' := a0_ H
    clear H
    go_wp2_with (first | ((with_reducible refine gate_dst (N := 17) rfl ?_); (try (refine gate_guard (by rfl) ?_; dsimp only)); refine Kd.R_lit (Kd.int .i64) _ 3 ?hg (N := 17) ?hd (xs := ([1, 2, 4, 8] : List Int)) (inner := [.int .i64 1, .int .i64 2, .int .i64 4, .int .i64 8]) (ok := fun _ => True) (okp := fun _ => True) ?hr ?hp (fun _ hk => hk) trivial (Below.refl _ _) (Nat.le_refl _) (by simp) ?_; (case hd => rfl); (case hg => rfl); (case hr => first | (go_simp; done) | (go_simp; rfl)); (case hp => exact (Reps.one (show Kd.M (Kd.int .i64) _ _ _ 1 [.int .i64 1] from rfl) (Reps.one (show Kd.M (Kd.int .i64) _ _ _ 2 [.int .i64 2] from rfl) (Reps.one (show Kd.M (Kd.int .i64) _ _ _ 4 [.int .i64 4] from rfl) (Reps.one (show Kd.M (Kd.int .i64) _ _ _ 8 [.int .i64 8] from rfl) (Reps.none _ _)))))); intro v187 w24 ho25 hb hg_ hnew_; clear hg_ hnew_; (first | rw [← Ny186.out] at ho25 | (simp only [Int.reduceToNat] at ho25; rw [← Ny186.out] at ho25)); have n0_ := a0_ (Kd.R_lower ho25 (below_size (by repeat (first | (with_reducible first | exact HB.out | apply b1_ | apply b2_ | apply b3_) | exact HB.out)))); have n1_ := a0_ (below_step (by repeat (first | (with_reducible first | exact HB.out | apply b1_ | apply b2_ | apply b3_) | exact HB.out)) hb); clear HB; have HO188 := n0_; have HB := n1_; clear n0_ n1_; clear hb ho25; obtain ⟨Ao26, co26, eo26⟩ := Kd.R_slice HO188.out; subst eo26) | ((with_reducible refine gate_callee (f := 5) rfl ?_); refine goesL_ (some 18) rfl rfl Try.func5 (by kernel_rfl) rfl #[.int .i64 a1, .slice Ao26 y186.length co26] rfl (by (try simp only [List.map_toArray, List.map_cons, List.map_nil]); first | done | rfl | (simp only [List.length_drop, List.length_take]; rfl)) ?_; (with_reducible refine (spec_OneOf.calls k a1 _ _ y186 false _ ?side1 ?side2 A7.out).mono ?_); (case side1 => repeat (first | exact (Kd.R_reads' HO188.out).2.2 | (with_reducible refine Kd.C_alloc ?_ _) | (with_reducible refine Kd.C_drewN ?_ _) | (with_reducible refine Kd.C_drew ?_))); (case side2 => exact (Kd.R_reads' HO188.out).2.1); rintro e w' ⟨rfl, ⟨nd, rfl⟩⟩; refine ⟨_, rfl, ?_⟩))
    go_meet
    case rel => exact ⟨_, (true), (by first | rfl | (simp; done) | (simp [*]; done)), H', ⟨by first | omega | exact Nat.le_refl _⟩, ⟨by repeat (first | (with_reducible first | exact HB.out | apply b1_ | apply b2_ | apply b3_) | exact HB.out)⟩⟩
  case rest =>
   clear HC6
   try clear c1
   try clear p2
   try clear c3
   try clear c5
   try clear c5b0
   try clear c5b1
   try clear c8
   try clear c9
   try clear c9b0
   try clear c9b1
   try clear c10
   try clear c11
   try clear c11b0
   obtain ⟨kq, x35_5, rfl, HA, HJ5, HB⟩ := hcut
   cases kq with
   | zero => exact absurd HA.out (by simp [laws_FnFlatNumber.j0])
   | succ kj5 =>
    have H := HA.out
    clear HA
    simp only [laws_FnFlatNumber.j0] at H
    by_cases c27 : x35_5 = true
    ·
     subst c27
     have H1 : (some true) = some r := by rw [if_pos rfl] at H; exact H
     clear H
     have H := H1
     clear H1
     obtain rfl := o1_ H
     go_wp2
     go_ret
     exact ⟨by first | rfl | (simp [e1_, e2_] <;> rfl) | (simp [*, e1_, e2_] <;> rfl), by repeat (first | (with_reducible first | exact HB.out | apply b1_ | apply b2_ | apply b3_) | exact HB.out)⟩
    ·
     replace c27 := Bool.eq_false_iff.mpr c27
     subst c27
     have H1 : ((spec_LittleOf.f kj5 l0).bind fun t190 => (if a3 = true then ((spec_PlainReal.f t190 a1).bind fun t191 => (laws_FnFlatNumber.j1 kj5 l0 a1 a2 a3 t190 (!t191))) else (laws_FnFlatNumber.j1 kj5 l0 a1 a2 a3 t190 false))) = some r := by rw [if_neg (show ¬ (false = true) by decide)] at H; exact H
     clear H
     have H := H1
     clear H1
     replace H := Option.bind_eq_some_iff.mp H
     obtain ⟨t190, A280, H⟩ := H
     replace H : (if a3 = true then ((spec_PlainReal.f t190 a1).bind fun t191 => (laws_FnFlatNumber.j1 kj5 l0 a1 a2 a3 t190 (!t191))) else (laws_FnFlatNumber.j1 kj5 l0 a1 a2 a3 t190 false)) = some r := H
     have A28 := a0_ A280
     clear A280
     have HC29 := a0_ H
     clear H
     go_upto_region 6 with (first | ((with_reducible refine gate_callee (f := 6) rfl ?_); refine goesL_ (some 37) rfl rfl Try.func6 (by kernel_rfl) rfl #[.slice A0 l0.length c0] rfl (by (try simp only [List.map_toArray, List.map_cons, List.map_nil]); first | done | rfl | (simp only [List.length_drop, List.length_take]; rfl)) ?_; (with_reducible refine (spec_LittleOf.calls kj5 _ _ l0 t190 _ ?side1 ?side2 A28.out).mono ?_); (case side1 => repeat (first | exact (Kd.C_below HR0.out HB.out) | (with_reducible refine Kd.C_alloc ?_ _) | (with_reducible refine Kd.C_drewN ?_ _) | (with_reducible refine Kd.C_drew ?_))); (case side2 => exact HC0.out); rintro e w' ⟨rfl, ⟨nd, rfl⟩⟩; refine ⟨_, rfl, ?_⟩))
     (try simp only [Act.put, s1_, s2_, s3_])
     go_cut [44] (fun v44 wc => ∃ (kq : Nat) (x44_28 : Bool), v44 = .bool x44_28 ∧ Aside0 (laws_FnFlatNumber.j1 kq l0 a1 a2 a3 t190 x44_28 = some r) ∧ Aside0 (kq ≤ kj5) ∧ Aside0 (Below w.heap.size w wc))
     case first =>
      have H := HC29.out
      clear HC29
      by_cases c30 : a3 = true
      ·
       subst c30
       have H1 : ((spec_PlainReal.f t190 a1).bind fun t191 => (laws_FnFlatNumber.j1 kj5 l0 a1 a2 true t190 (!t191))) = some r := by rw [if_pos rfl] at H; exact H
       clear H
       have H := H1
       clear H1
       replace H := Option.bind_eq_some_iff.mp H
       obtain ⟨t191, A310, H⟩ := H
       replace H : (laws_FnFlatNumber.j1 kj5 l0 a1 a2 true t190 (!t191)) = some r := H
       have A31 := a0_ A310
       clear A310
       have H' := a0_ H
       clear H
       go_wp2_with (first | (go_at_call 7; (with_reducible refine (spec_PlainReal.calls t190 a1 t191 _ A31.out).mono ?_); rintro e w' ⟨rfl, ⟨nd, rfl⟩⟩))
       go_meet
       case rel => exact ⟨_, (!t191), (by first | rfl | (simp; done) | (simp [*]; done)), H', ⟨by have := HJ5.out; first | omega | exact Nat.le_refl _⟩, ⟨by repeat (first | (with_reducible first | exact HB.out | apply b1_ | apply b2_ | apply b3_) | exact HB.out)⟩⟩
      ·
       replace c30 := Bool.eq_false_iff.mpr c30
       subst c30
       have H1 : (laws_FnFlatNumber.j1 kj5 l0 a1 a2 false t190 false) = some r := by rw [if_neg (show ¬ (false = true) by decide)] at H; exact H
       clear H
       have H := H1
       clear H1
       have H' := a0_ H
       clear H
       go_wp2
       go_meet
       case rel => exact ⟨_, (false), (by first | rfl | (simp; done) | (simp [*]; done)), H', ⟨by have := HJ5.out; first | omega | exact Nat.le_refl _⟩, ⟨by repeat (first | (with_reducible first | exact HB.out | apply b1_ | apply b2_ | apply b3_) | exact HB.out)⟩⟩
     case rest =>
      clear HC29
      try clear c1
      try clear c2
      try clear p2
      try clear c3
      try clear c5
      try clear c5b0
      try clear c5b1
      try clear c6
      try clear c8
      try clear c9
      try clear c9b0
      try clear c9b1
      try clear c10
      try clear c11
      try clear c11b0
      try clear c27
      try clear c30
      try clear p2
      obtain ⟨kq, x44_28, rfl, HA, HJ28, HB⟩ := hcut
      cases kq with
      | zero => exact absurd HA.out (by simp [laws_FnFlatNumber.j1])
      | succ kj28 =>
       have H := HA.out
       clear HA
       simp only [laws_FnFlatNumber.j1] at H
       by_cases c32 : x44_28 = true
       ·
        subst c32
        have H1 : (some true) = some r := by rw [if_pos rfl] at H; exact H
        clear H
        have H := H1
        clear H1
        obtain rfl := o1_ H
        go_wp2
        go_ret
        exact ⟨by first | rfl | (simp [e1_, e2_] <;> rfl) | (simp [*, e1_, e2_] <;> rfl), by repeat (first | (with_reducible first | exact HB.out | apply b1_ | apply b2_ | apply b3_) | exact HB.out)⟩
       ·
        replace c32 := Bool.eq_false_iff.mpr c32
        subst c32
        have H1 : ((impl_FlatNumberAt.f l0 a1 a2 a3).bind fun bt192 => (if bt192.2.2 = true then (if bt192.1 = t190 then ((laws_same.f bt192.2.1 l0).bind fun t197 => (some t197)) else (some false)) else (some false))) = some r := by rw [if_neg (show ¬ (false = true) by decide)] at H; exact H
        clear H
        have H := H1
        clear H1
        replace H := Option.bind_eq_some_iff.mp H
        obtain ⟨⟨t192, t193, t194⟩, A330, H⟩ := H
        replace H : (if t194 = true then (if t192 = t190 then ((laws_same.f t193 l0).bind fun t197 => (some t197)) else (some false)) else (some false)) = some r := H
        have A33 := a0_ A330
        clear A330
        by_cases c34 : t194 = true
        ·
         subst c34
         have H1 : (if t192 = t190 then ((laws_same.f t193 l0).bind fun t197 => (some t197)) else (some false)) = some r := by rw [if_pos rfl] at H; exact H
         clear H
         have H := H1
         clear H1
         by_cases c35 : t192 = t190
         ·
          rw [if_pos c35] at H
          have c35b0 : (t192 == t190) = true := beq_iff_eq.mpr c35
          have c35b1 : (t192 != t190) = false := bne_eq_false_iff_eq.mpr c35
          clear c35
          replace H := Option.bind_eq_some_iff.mp H
          obtain ⟨t197, A360, H⟩ := H
          replace H : (some t197) = some r := H
          have A36 := a0_ A360
          clear A360
          obtain rfl := o1_ H
          go_wp2_with (first | ((with_reducible refine gate_callee (f := 8) rfl ?_); refine goesL_ (some 50) rfl rfl Try.func8 (by kernel_rfl) rfl #[.slice A0 l0.length c0, .int .i64 a1, .bool a2, .bool a3] rfl (by (try simp only [List.map_toArray, List.map_cons, List.map_nil]); first | done | rfl | (simp only [List.length_drop, List.length_take]; rfl)) ?_; (with_reducible refine (impl_FlatNumberAt.calls _ _ l0 a1 a2 a3 t192 t193 true _ ?side1 ?side2 A33.out).mono ?_); (case side1 => repeat (first | exact (Kd.C_below HR0.out HB.out) | (with_reducible refine Kd.C_alloc ?_ _) | (with_reducible refine Kd.C_drewN ?_ _) | (with_reducible refine Kd.C_drew ?_))); (case side2 => exact HC0.out); rintro e w37 ⟨v195, rfl, ho0, hb⟩; refine ⟨_, rfl, ?_⟩; have n0_ := a0_ ho0; have n1_ := a0_ (below_step (by repeat (first | (with_reducible first | exact HB.out | apply b1_ | apply b2_ | apply b3_) | exact HB.out)) hb); clear HB; have HO196 := n0_; have HB := n1_; clear n0_ n1_; (try clear hb); (try clear hb2); (try clear hk); (try clear hi); (try clear ho0); obtain ⟨Ao38, co38, eo38⟩ := Kd.V_slice HO196.out; subst eo38) | (go_at_call 9; (with_reducible refine (laws_same.calls _ _ t193 _ _ l0 t197 _ ?side1 ?side2 ?side3 ?side4 A36.out).mono ?_); (case side1 => repeat (first | exact (Kd.V_reads' HO196.out).2.2 | (with_reducible refine Kd.C_alloc ?_ _) | (with_reducible refine Kd.C_drewN ?_ _) | (with_reducible refine Kd.C_drew ?_))); (case side2 => exact (Kd.V_reads' HO196.out).2.1); (case side3 => repeat (first | exact (Kd.C_below HR0.out HB.out) | (with_reducible refine Kd.C_alloc ?_ _) | (with_reducible refine Kd.C_drewN ?_ _) | (with_reducible refine Kd.C_drew ?_))); (case side4 => exact HC0.out); rintro e w' ⟨rfl, ⟨nd, rfl⟩⟩))
          go_ret
          exact ⟨by first | rfl | (simp [e1_, e2_] <;> rfl) | (simp [*, e1_, e2_] <;> rfl), by repeat (first | (with_reducible first | exact HB.out | apply b1_ | apply b2_ | apply b3_) | exact HB.out)⟩
         ·
          rw [if_neg c35] at H
          have c35b0 : (t192 == t190) = false := beq_eq_false_iff_ne.mpr c35
          have c35b1 : (t192 != t190) = true := bne_iff_ne.mpr c35
          obtain rfl := o1_ H
          go_wp2_with (first | ((with_reducible refine gate_callee (f := 8) rfl ?_); refine goesL_ (some 50) rfl rfl Try.func8 (by kernel_rfl) rfl #[.slice A0 l0.length c0, .int .i64 a1, .bool a2, .bool a3] rfl (by (try simp only [List.map_toArray, List.map_cons, List.map_nil]); first | done | rfl | (simp only [List.length_drop, List.length_take]; rfl)) ?_; (with_reducible refine (impl_FlatNumberAt.calls _ _ l0 a1 a2 a3 t192 t193 true _ ?side1 ?side2 A33.out).mono ?_); (case side1 => repeat (first | exact (Kd.C_below HR0.out HB.out) | (with_reducible refine Kd.C_alloc ?_ _) | (with_reducible refine Kd.C_drewN ?_ _) | (with_reducible refine Kd.C_drew ?_))); (case side2 => exact HC0.out); rintro e w39 ⟨v195, rfl, ho0, hb⟩; refine ⟨_, rfl, ?_⟩; have n0_ := a0_ ho0; have n1_ := a0_ (below_step (by repeat (first | (with_reducible first | exact HB.out | apply b1_ | apply b2_ | apply b3_) | exact HB.out)) hb); clear HB; have HO196 := n0_; have HB := n1_; clear n0_ n1_; (try clear hb); (try clear hb2); (try clear hk); (try clear hi); (try clear ho0)))
          go_ret
          exact ⟨by first | rfl | (simp [e1_, e2_] <;> rfl) | (simp [*, e1_, e2_] <;> rfl), by repeat (first | (with_reducible first | exact HB.out | apply b1_ | apply b2_ | apply b3_) | exact HB.out)⟩
        ·
         replace c34 := Bool.eq_false_iff.mpr c34
         subst c34
         have H1 : (some false) = some r := by rw [if_neg (show ¬ (false = true) by decide)] at H; exact H
         clear H
         have H := H1
         clear H1
         obtain rfl := o1_ H
         go_wp2_with (first | ((with_reducible refine gate_callee (f := 8) rfl ?_); refine goesL_ (some 50) rfl rfl Try.func8 (by kernel_rfl) rfl #[.slice A0 l0.length c0, .int .i64 a1, .bool a2, .bool a3] rfl (by (try simp only [List.map_toArray, List.map_cons, List.map_nil]); first | done | rfl | (simp only [List.length_drop, List.length_take]; rfl)) ?_; (with_reducible refine (impl_FlatNumberAt.calls _ _ l0 a1 a2 a3 t192 t193 false _ ?side1 ?side2 A33.out).mono ?_); (case side1 => repeat (first | exact (Kd.C_below HR0.out HB.out) | (with_reducible refine Kd.C_alloc ?_ _) | (with_reducible refine Kd.C_drewN ?_ _) | (with_reducible refine Kd.C_drew ?_))); (case side2 => exact HC0.out); rintro e w40 ⟨v195, rfl, ho0, hb⟩; refine ⟨_, rfl, ?_⟩; have n0_ := a0_ ho0; have n1_ := a0_ (below_step (by repeat (first | (with_reducible first | exact HB.out | apply b1_ | apply b2_ | apply b3_) | exact HB.out)) hb); clear HB; have HO196 := n0_; have HB := n1_; clear n0_ n1_; (try clear hb); (try clear hb2); (try clear hk); (try clear hi); (try clear ho0)))
         go_ret
         exact ⟨by first | rfl | (simp [e1_, e2_] <;> rfl) | (simp [*, e1_, e2_] <;> rfl), by repeat (first | (with_reducible first | exact HB.out | apply b1_ | apply b2_ | apply b3_) | exact HB.out)⟩

/-- THE ONE PURE STATEMENT of laws_FnFlatNumber: yours. -/
def laws_FnFlatNumber.Pure : Prop := ∀ (l0 : List Int) (a1 : Int) (a2 : Bool) (a3 : Bool), l0.length ≤ maxLen → l0.length * 1 ≤ 140737488351232 → (∀ x ∈ l0, (Lit.int .u8 x).wf = true) → (Lit.int .i64 a1).wf = true → ∃ k, laws_FnFlatNumber.f k l0 a1 a2 a3 = some true
theorem laws_FnFlatNumber.walk (P : laws_FnFlatNumber.Pure) (a0 : Option Addr) (len0 cap0 : Nat) (z0 : List Int) (a1 : Int) (a2 : Bool) (a3 : Bool) (w : World) (w0 : (a0 = none ∧ len0 = 0 ∧ cap0 = 0 ∧ z0 = []) ∨ ∃ x, a0 = some x ∧ len0 ≤ cap0 ∧ cap0 ≤ maxLen ∧ z0.length = cap0 ∧ (∀ i, i < z0.length → w.cell? (x.add i) = some (.int .u8 (z0.getD i 0))) ∧ ∀ n ∈ z0, (Lit.int .u8 n).wf = true) (y0 : len0 * 1 ≤ 140737488351232) (w1 : (Lit.int .i64 a1).wf = true) :
  Calls Try.prog 3 #[.slice a0 len0 cap0, .int .i64 a1, .bool a2, .bool a3] w fun e w' => e = .returned (.bool true) ∧ Below w.heap.size w w' := by
 obtain ⟨l0, rfl, hr0, hm0, hw0, hc0⟩ := ReadsInt.ofRowC w0
 obtain ⟨k, h⟩ := P l0 a1 a2 a3 hm0 y0 hw0 w1
 refine (laws_FnFlatNumber.calls k _ _ l0 a1 a2 a3 true w (Kd.C_of_reads (d := (0 : Int)) (h1 := fun _ => rfl) hr0) hc0 h).mono ?_
 rintro e w' ⟨rfl, hd⟩
 exact ⟨rfl, hd⟩


end Go.Proofs.Ytbepnloclnjkfaa.V
