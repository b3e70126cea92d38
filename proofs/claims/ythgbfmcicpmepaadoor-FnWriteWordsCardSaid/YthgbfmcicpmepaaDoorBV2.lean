import Derived.Test.YthgbfmcicpmepaaDoorBV1
import Derived.Test.YthgbfmcicpmepaaDoorBT5
namespace Go.Proofs.YthgbfmcicpmepaaDoor.V
open Go.RowKit Go.Proofs.YthgbfmcicpmepaaDoorW.PrintWords Go.Proofs.YthgbfmcicpmepaaDoorW.PrintLast Go.Proofs.YthgbfmcicpmepaaDoorW.PrintMore
attribute [local go_sem] max2_int min2_int max_two min_two max_three min_three max_four min_four
set_option linter.unusedVariables false
set_option linter.unusedSimpArgs false

/-! ### laws_FnSameBits: function 4 -/
mutual
def laws_FnSameBits.j0 : Nat → List Int → List Int → Int → Int → Int → Bool → Option (Bool)
 | 0, _, _, _, _, _, _ => none
 | k + 1, x0, x1, x2, x3, x4, x22 => if x22 = true then (some true) else ((laws_within.f x0 x2 x4).bind fun t118 => (if t118 = true then ((laws_within.f x1 x3 x4).bind fun t119 => (laws_FnSameBits.j1 k x0 x1 x2 x3 x4 (!t119))) else (laws_FnSameBits.j1 k x0 x1 x2 x3 x4 true)))
def laws_FnSameBits.j1 : Nat → List Int → List Int → Int → Int → Int → Bool → Option (Bool)
 | 0, _, _, _, _, _, _ => none
 | k + 1, x0, x1, x2, x3, x4, x34 => if x34 = true then (some true) else ((spec_BitList.f k x0 x2 x4).bind fun bt120 => ((spec_BitList.f k x1 x3 x4).bind fun bt124 => ((impl_SameBits.f x0 x1 x2 x3 x4).bind fun t128 => ((spec_SameBools.f k bt120.1 bt124.1).bind fun t129 => (some (t128 == t129))))))
end
def laws_FnSameBits.f (k : Nat) (l0 : List Int) (l1 : List Int) (a2 : Int) (a3 : Int) (a4 : Int) : Option (Bool) := if (l0.length : Int) > 2147483647 then (laws_FnSameBits.j0 k l0 l1 a2 a3 a4 true) else (laws_FnSameBits.j0 k l0 l1 a2 a3 a4 (decide ((l1.length : Int) > 2147483647)))
set_option maxHeartbeats 8000000 in
set_option maxRecDepth 100000 in
theorem laws_FnSameBits.calls (k : Nat) (A0 : Option Addr) (c0 : Nat) (l0 : List Int) (A1 : Option Addr) (c1 : Nat) (l1 : List Int) (a2 : Int) (a3 : Int) (a4 : Int) (r : Bool) (w : World) (hT : TabAt w) (hr0 : Kd.C (Kd.int .u8) w A0 l0.length l0) (hc0 : l0.length ≤ c0) (hr1 : Kd.C (Kd.int .u8) w A1 l1.length l1) (hc1 : l1.length ≤ c1) (h : laws_FnSameBits.f k l0 l1 a2 a3 a4 = some r) :
  Calls Tryd.prog 4 #[.slice A0 l0.length c0, .slice A1 l1.length c1, .int .i64 a2, .int .i64 a3, .int .i64 a4] w fun e w' => e = .returned (.bool r) ∧ Below w.heap.size w w' := by
 have HR0 := a0_ hr0
 have HC0 := a0_ hc0
 clear hr0 hc0
 have HR1 := a0_ hr1
 have HC1 := a0_ hc1
 clear hr1 hc1
 have HB := a0_ (Below.refl w.heap.size w)
 have HTAB := a0_ hT
 clear hT
 have H : (if (l0.length : Int) > 2147483647 then (laws_FnSameBits.j0 k l0 l1 a2 a3 a4 true) else (laws_FnSameBits.j0 k l0 l1 a2 a3 a4 (decide ((l1.length : Int) > 2147483647)))) = some r := h
 clear h
 have HC6 := a0_ H
 clear H
 go_enter Tryd.func4, Tryd.ntmps4
 go_upto_region 1 with (fail)
 go_cut [22] (fun v22 wc => ∃ (kq : Nat) (x22_5 : Bool), v22 = .bool x22_5 ∧ Aside0 (laws_FnSameBits.j0 kq l0 l1 a2 a3 a4 x22_5 = some r) ∧ Aside0 (kq ≤ k) ∧ Aside0 (Below w.heap.size w wc))
 case first =>
  have H := HC6.out
  clear HC6
  by_cases c7 : (l0.length : Int) > 2147483647
  ·
   rw [if_pos c7] at H
   have c7b0 : decide (2147483647 < (l0.length : Int)) = true := d2_ c7
   have c7b1 : decide (2147483647 < l0.length) = true := d2_ (by omega)
   clear c7
   (first | rw [c7b0] | (simp only [i64_w, i32_w]; rw [c7b0]) | skip)
   have H' := a0_ H
   clear H
   go_wp2
   go_meet
   case rel => exact ⟨_, (true), (by first | rfl | (simp; done) | (simp [*]; done)), H', ⟨by first | omega | exact Nat.le_refl _⟩, ⟨by repeat (first | (with_reducible first | exact HB.out | apply b1_ | apply b2_ | apply b3_) | exact HB.out)⟩⟩
  ·
   rw [if_neg c7] at H
   have c7b0 : decide (2147483647 < (l0.length : Int)) = false := d3_ c7
   have c7b1 : decide (2147483647 < l0.length) = false := d3_ (by omega)
   clear c7
   (first | rw [c7b0] | (simp only [i64_w, i32_w]; rw [c7b0]) | skip)
   have H' := a0_ H
   clear H
   go_wp2
   go_meet
   case rel => exact ⟨_, (decide ((l1.length : Int) > 2147483647)), (by first | rfl | (simp; done) | (simp [*]; done)), H', ⟨by first | omega | exact Nat.le_refl _⟩, ⟨by repeat (first | (with_reducible first | exact HB.out | apply b1_ | apply b2_ | apply b3_) | exact HB.out)⟩⟩
 case rest =>
  clear HC6
  try clear c1
  try clear p2
  try clear c4
  try clear c7
  try clear c7b0
  try clear c7b1
  obtain ⟨kq, x22_5, rfl, HA, HJ5, HB⟩ := hcut
  cases kq with
  | zero => exact absurd HA.out (by simp [laws_FnSameBits.j0])
  | succ kj5 =>
   have H := HA.out
   clear HA
   simp only [laws_FnSameBits.j0] at H
   by_cases c8 : x22_5 = true
   ·
    subst c8
    have H1 : (some true) = some r := by rw [if_pos rfl] at H; exact H
    clear H
    have H := H1
    clear H1
    obtain rfl := o1_ H
    go_wp2
    go_ret
    exact ⟨by first | rfl | (simp [e1_, e2_] <;> rfl) | (simp [*, e1_, e2_] <;> rfl), by repeat (first | (with_reducible first | exact HB.out | apply b1_ | apply b2_ | apply b3_) | exact HB.out)⟩
   ·
    replace c8 := Bool.eq_false_iff.mpr c8
    subst c8
    have H1 : ((laws_within.f l0 a2 a4).bind fun t118 => (if t118 = true then ((laws_within.f l1 a3 a4).bind fun t119 => (laws_FnSameBits.j1 kj5 l0 l1 a2 a3 a4 (!t119))) else (laws_FnSameBits.j1 kj5 l0 l1 a2 a3 a4 true))) = some r := by rw [if_neg (show ¬ (false = true) by decide)] at H; exact H
    clear H
    have H := H1
    clear H1
    have HC9 := a0_ H
    clear H
    go_upto_region 3 with (fail)
    go_cut [34] (fun v34 wc => ∃ (kq : Nat) (x34_8 : Bool), v34 = .bool x34_8 ∧ Aside0 (laws_FnSameBits.j1 kq l0 l1 a2 a3 a4 x34_8 = some r) ∧ Aside0 (kq ≤ kj5) ∧ Aside0 (Below w.heap.size w wc))
    case first =>
     have H := HC9.out
     clear HC9
     replace H := Option.bind_eq_some_iff.mp H
     obtain ⟨t118, A100, H⟩ := H
     replace H : (if t118 = true then ((laws_within.f l1 a3 a4).bind fun t119 => (laws_FnSameBits.j1 kj5 l0 l1 a2 a3 a4 (!t119))) else (laws_FnSameBits.j1 kj5 l0 l1 a2 a3 a4 true)) = some r := H
     have A10 := a0_ A100
     clear A100
     by_cases c11 : t118 = true
     ·
      subst c11
      have H1 : ((laws_within.f l1 a3 a4).bind fun t119 => (laws_FnSameBits.j1 kj5 l0 l1 a2 a3 a4 (!t119))) = some r := by rw [if_pos rfl] at H; exact H
      clear H
      have H := H1
      clear H1
      replace H := Option.bind_eq_some_iff.mp H
      obtain ⟨t119, A120, H⟩ := H
      replace H : (laws_FnSameBits.j1 kj5 l0 l1 a2 a3 a4 (!t119)) = some r := H
      have A12 := a0_ A120
      clear A120
      have H' := a0_ H
      clear H
      go_wp2_with (first | ((with_reducible refine gate_callee (f := 6) rfl ?_); refine goesL_ (some 26) rfl rfl Tryd.func6 (by kernel_rfl) rfl #[.slice A0 l0.length c0, .int .i64 a2, .int .i64 a4] rfl (by (try simp only [List.map_toArray, List.map_cons, List.map_nil]); first | done | rfl | (simp only [List.length_drop, List.length_take]; rfl)) ?_; (with_reducible refine (laws_within.calls _ _ l0 a2 a4 true _ ?side1 ?side2 A10.out).mono ?_); (case side1 => repeat (first | exact (Kd.C_below HR0.out HB.out) | (with_reducible refine Kd.C_alloc ?_ _) | (with_reducible refine Kd.C_drewN ?_ _) | (with_reducible refine Kd.C_drew ?_))); (case side2 => exact HC0.out); rintro e w' ⟨rfl, ⟨nd, rfl⟩⟩; refine ⟨_, rfl, ?_⟩) | (go_at_call 6; (with_reducible refine (laws_within.calls _ _ l1 a3 a4 t119 _ ?side1 ?side2 A12.out).mono ?_); (case side1 => repeat (first | exact (Kd.C_below HR1.out (by repeat (first | (with_reducible first | exact HB.out | apply b1_ | apply b2_ | apply b3_) | exact HB.out))) | (with_reducible refine Kd.C_alloc ?_ _) | (with_reducible refine Kd.C_drewN ?_ _) | (with_reducible refine Kd.C_drew ?_))); (case side2 => exact HC1.out); rintro e w' ⟨rfl, ⟨nd, rfl⟩⟩))
      go_meet
      case rel => exact ⟨_, (!t119), (by first | rfl | (simp; done) | (simp [*]; done)), H', ⟨by have := HJ5.out; first | omega | exact Nat.le_refl _⟩, ⟨by repeat (first | (with_reducible first | exact HB.out | apply b1_ | apply b2_ | apply b3_) | exact HB.out)⟩⟩
     ·
      replace c11 := Bool.eq_false_iff.mpr c11
      subst c11
      have H1 : (laws_FnSameBits.j1 kj5 l0 l1 a2 a3 a4 true) = some r := by rw [if_neg (show ¬ (false = true) by decide)] at H; exact H
      clear H
      have H := H1
      clear H1
      have H' := a0_ H
      clear H
      go_wp2_with (first | ((with_reducible refine gate_callee (f := 6) rfl ?_); refine goesL_ (some 26) rfl rfl Tryd.func6 (by kernel_rfl) rfl #[.slice A0 l0.length c0, .int .i64 a2, .int .i64 a4] rfl (by (try simp only [List.map_toArray, List.map_cons, List.map_nil]); first | done | rfl | (simp only [List.length_drop, List.length_take]; rfl)) ?_; (with_reducible refine (laws_within.calls _ _ l0 a2 a4 false _ ?side1 ?side2 A10.out).mono ?_); (case side1 => repeat (first | exact (Kd.C_below HR0.out HB.out) | (with_reducible refine Kd.C_alloc ?_ _) | (with_reducible refine Kd.C_drewN ?_ _) | (with_reducible refine Kd.C_drew ?_))); (case side2 => exact HC0.out); rintro e w' ⟨rfl, ⟨nd, rfl⟩⟩; refine ⟨_, rfl, ?_⟩))
      go_meet
      case rel => exact ⟨_, (true), (by first | rfl | (simp; done) | (simp [*]; done)), H', ⟨by have := HJ5.out; first | omega | exact Nat.le_refl _⟩, ⟨by repeat (first | (with_reducible first | exact HB.out | apply b1_ | apply b2_ | apply b3_) | exact HB.out)⟩⟩
    case rest =>
     clear HC9
     try clear c1
     try clear p2
     try clear c4
     try clear c6
     try clear c7
     try clear c7b0
     try clear c7b1
     try clear c8
     try clear c11
     try clear p2
     obtain ⟨kq, x34_8, rfl, HA, HJ8, HB⟩ := hcut
     cases kq with
     | zero => exact absurd HA.out (by simp [laws_FnSameBits.j1])
     | succ kj8 =>
      have H := HA.out
      clear HA
      simp only [laws_FnSameBits.j1] at H
      by_cases c13 : x34_8 = true
      ·
       subst c13
       have H1 : (some true) = some r := by rw [if_pos rfl] at H; exact H
       clear H
       have H := H1
       clear H1
       obtain rfl := o1_ H
       go_wp2
       go_ret
       exact ⟨by first | rfl | (simp [e1_, e2_] <;> rfl) | (simp [*, e1_, e2_] <;> rfl), by repeat (first | (with_reducible first | exact HB.out | apply b1_ | apply b2_ | apply b3_) | exact HB.out)⟩
      ·
       replace c13 := Bool.eq_false_iff.mpr c13
       subst c13
       have H1 : ((spec_BitList.f kj8 l0 a2 a4).bind fun bt120 => ((spec_BitList.f kj8 l1 a3 a4).bind fun bt124 => ((impl_SameBits.f l0 l1 a2 a3 a4).bind fun t128 => ((spec_SameBools.f kj8 bt120.1 bt124.1).bind fun t129 => (some (t128 == t129)))))) = some r := by rw [if_neg (show ¬ (false = true) by decide)] at H; exact H
       clear H
       have H := H1
       clear H1
       replace H := Option.bind_eq_some_iff.mp H
       obtain ⟨⟨t120, t121⟩, A140, H⟩ := H
       replace H : ((spec_BitList.f kj8 l1 a3 a4).bind fun bt124 => ((impl_SameBits.f l0 l1 a2 a3 a4).bind fun t128 => ((spec_SameBools.f kj8 t120 bt124.1).bind fun t129 => (some (t128 == t129))))) = some r := H
       have A14 := a0_ A140
       clear A140
       replace H := Option.bind_eq_some_iff.mp H
       obtain ⟨⟨t124, t125⟩, A150, H⟩ := H
       replace H : ((impl_SameBits.f l0 l1 a2 a3 a4).bind fun t128 => ((spec_SameBools.f kj8 t120 t124).bind fun t129 => (some (t128 == t129)))) = some r := H
       have A15 := a0_ A150
       clear A150
       replace H := Option.bind_eq_some_iff.mp H
       obtain ⟨t128, A160, H⟩ := H
       replace H : ((spec_SameBools.f kj8 t120 t124).bind fun t129 => (some (t128 == t129))) = some r := H
       have A16 := a0_ A160
       clear A160
       replace H := Option.bind_eq_some_iff.mp H
       obtain ⟨t129, A170, H⟩ := H
       replace H : (some (t128 == t129)) = some r := H
       have A17 := a0_ A170
       clear A170
       obtain rfl := o1_ H
       go_wp2_with (first | ((with_reducible refine gate_callee (f := 11) rfl ?_); refine goesL_ (some 39) rfl rfl Tryd.func11 (by kernel_rfl) rfl #[.slice A0 l0.length c0, .int .i64 a2, .int .i64 a4] rfl (by (try simp only [List.map_toArray, List.map_cons, List.map_nil]); first | done | rfl | (simp only [List.length_drop, List.length_take]; rfl)) ?_; (with_reducible refine (spec_BitList.calls kj8 _ _ l0 a2 a4 t120 t121 _ ?side1 ?side2 A14.out).mono ?_); (case side1 => repeat (first | exact (Kd.C_below HR0.out HB.out) | (with_reducible refine Kd.C_alloc ?_ _) | (with_reducible refine Kd.C_drewN ?_ _) | (with_reducible refine Kd.C_drew ?_))); (case side2 => exact HC0.out); rintro e w18 ⟨v122, rfl, ho0, hb⟩; refine ⟨_, rfl, ?_⟩; have n0_ := a0_ (Kd.R_lower ho0 (below_size (by repeat (first | (with_reducible first | exact HB.out | apply b1_ | apply b2_ | apply b3_) | exact HB.out)))); have n1_ := a0_ (below_step (by repeat (first | (with_reducible first | exact HB.out | apply b1_ | apply b2_ | apply b3_) | exact HB.out)) hb); clear HB; have HO123 := n0_; have HB := n1_; clear n0_ n1_; (try clear hb); (try clear hb2); (try clear hk); (try clear hi); (try clear ho0)) | ((with_reducible refine gate_callee (f := 11) rfl ?_); refine goesL_ (some 46) rfl rfl Tryd.func11 (by kernel_rfl) rfl #[.slice A1 l1.length c1, .int .i64 a3, .int .i64 a4] rfl (by (try simp only [List.map_toArray, List.map_cons, List.map_nil]); first | done | rfl | (simp only [List.length_drop, List.length_take]; rfl)) ?_; (with_reducible refine (spec_BitList.calls kj8 _ _ l1 a3 a4 t124 t125 _ ?side1 ?side2 A15.out).mono ?_); (case side1 => repeat (first | exact (Kd.C_below HR1.out HB.out) | (with_reducible refine Kd.C_alloc ?_ _) | (with_reducible refine Kd.C_drewN ?_ _) | (with_reducible refine Kd.C_drew ?_))); (case side2 => exact HC1.out); rintro e w19 ⟨v126, rfl, ho0, hb⟩; refine ⟨_, rfl, ?_⟩; have n0_ := a0_ (Kd.R_elder' (by (with_reducible repeat (first | apply r1_ | apply r2_ | apply r3_)); exact HO123.out) (Kd.R_base ho0) hb); have n1_ := a0_ (Kd.R_lower (Kd.R_new' ho0 (Kd.R_lt (by (with_reducible repeat (first | apply r1_ | apply r2_ | apply r3_)); exact HO123.out))) (below_size (by repeat (first | (with_reducible first | exact HB.out | apply b1_ | apply b2_ | apply b3_) | exact HB.out)))); have n2_ := a0_ (below_step (by repeat (first | (with_reducible first | exact HB.out | apply b1_ | apply b2_ | apply b3_) | exact HB.out)) hb); clear HO123; clear HB; have HO123 := n0_; have HO127 := n1_; have HB := n2_; clear n0_ n1_ n2_; (try clear hb); (try clear hb2); (try clear hk); (try clear hi); (try clear ho0)) | ((with_reducible refine gate_callee (f := 12) rfl ?_); refine goesL_ (some 54) rfl rfl Tryd.func12 (by kernel_rfl) rfl #[.slice A0 l0.length c0, .slice A1 l1.length c1, .int .i64 a2, .int .i64 a3, .int .i64 a4] rfl (by (try simp only [List.map_toArray, List.map_cons, List.map_nil]); first | done | rfl | (simp only [List.length_drop, List.length_take]; rfl)) ?_; (with_reducible refine (impl_SameBits.calls _ _ l0 _ _ l1 a2 a3 a4 t128 _ ?side0 ?side1 ?side2 ?side3 ?side4 A16.out).mono ?_); (case side0 => exact HTAB.out.below (by repeat (first | (with_reducible first | exact HB.out | apply b1_ | apply below_drewN | apply below_drew | apply b4_) | exact HB.out))); (case side1 => repeat (first | exact (Kd.C_below HR0.out HB.out) | (with_reducible refine Kd.C_alloc ?_ _) | (with_reducible refine Kd.C_drewN ?_ _) | (with_reducible refine Kd.C_drew ?_))); (case side2 => exact HC0.out); (case side3 => repeat (first | exact (Kd.C_below HR1.out HB.out) | (with_reducible refine Kd.C_alloc ?_ _) | (with_reducible refine Kd.C_drewN ?_ _) | (with_reducible refine Kd.C_drew ?_))); (case side4 => exact HC1.out); rintro e w20 ⟨rfl, hb⟩; refine ⟨_, rfl, ?_⟩; have n0_ := a0_ (Kd.R_below (by (with_reducible repeat (first | apply r1_ | apply r2_ | apply r3_)); exact HO123.out) hb); have n1_ := a0_ (Kd.R_below (by (with_reducible repeat (first | apply r1_ | apply r2_ | apply r3_)); exact HO127.out) hb); have n2_ := a0_ (below_step (by repeat (first | (with_reducible first | exact HB.out | apply b1_ | apply b2_ | apply b3_) | exact HB.out)) hb); clear HO123; clear HO127; clear HB; have HO123 := n0_; have HO127 := n1_; have HB := n2_; clear n0_ n1_ n2_; (try clear hb); (try clear hb2); (try clear hk); (try clear hi); obtain ⟨Ao21, co21, eo21⟩ := Kd.R_slice HO123.out; subst eo21; obtain ⟨Ao22, co22, eo22⟩ := Kd.R_slice HO127.out; subst eo22) | ((with_reducible refine gate_callee (f := 13) rfl ?_); refine goesL_ (some 57) rfl rfl Tryd.func13 (by kernel_rfl) rfl #[.slice Ao21 t120.length co21, .slice Ao22 t124.length co22] rfl (by (try simp only [List.map_toArray, List.map_cons, List.map_nil]); first | done | rfl | (simp only [List.length_drop, List.length_take]; rfl)) ?_; (with_reducible refine (spec_SameBools.calls kj8 _ _ t120 _ _ t124 t129 _ ?side1 ?side2 ?side3 ?side4 A17.out).mono ?_); (case side1 => repeat (first | exact (Kd.R_reads' HO123.out).2.2 | (with_reducible refine Kd.C_alloc ?_ _) | (with_reducible refine Kd.C_drewN ?_ _) | (with_reducible refine Kd.C_drew ?_))); (case side2 => exact (Kd.R_reads' HO123.out).2.1); (case side3 => repeat (first | exact (Kd.R_reads' HO127.out).2.2 | (with_reducible refine Kd.C_alloc ?_ _) | (with_reducible refine Kd.C_drewN ?_ _) | (with_reducible refine Kd.C_drew ?_))); (case side4 => exact (Kd.R_reads' HO127.out).2.1); rintro e w' ⟨rfl, ⟨nd, rfl⟩⟩; refine ⟨_, rfl, ?_⟩))
       go_ret
       exact ⟨by first | rfl | (simp [e1_, e2_] <;> rfl) | (simp [*, e1_, e2_] <;> rfl), by repeat (first | (with_reducible first | exact HB.out | apply b1_ | apply b2_ | apply b3_) | exact HB.out)⟩

/-- THE ONE PURE STATEMENT of laws_FnSameBits: yours. -/
def laws_FnSameBits.Pure : Prop := ∀ (l0 : List Int) (l1 : List Int) (a2 : Int) (a3 : Int) (a4 : Int), l0.length ≤ maxLen → l0.length * 1 ≤ 140737488351232 → (∀ x ∈ l0, (Lit.int .u8 x).wf = true) → l1.length ≤ maxLen → l1.length * 1 ≤ 140737488351232 → (∀ x ∈ l1, (Lit.int .u8 x).wf = true) → (Lit.int .i64 a2).wf = true → (Lit.int .i64 a3).wf = true → (Lit.int .i64 a4).wf = true → ∃ k, laws_FnSameBits.f k l0 l1 a2 a3 a4 = some true
theorem laws_FnSameBits.walk (P : laws_FnSameBits.Pure) (a0 : Option Addr) (len0 cap0 : Nat) (z0 : List Int) (a1 : Option Addr) (len1 cap1 : Nat) (z1 : List Int) (a2 : Int) (a3 : Int) (a4 : Int) (w : World) (hT : TabAt w) (w0 : (a0 = none ∧ len0 = 0 ∧ cap0 = 0 ∧ z0 = []) ∨ ∃ x, a0 = some x ∧ len0 ≤ cap0 ∧ cap0 ≤ maxLen ∧ z0.length = cap0 ∧ (∀ i, i < z0.length → w.cell? (x.add i) = some (.int .u8 (z0.getD i 0))) ∧ ∀ n ∈ z0, (Lit.int .u8 n).wf = true) (y0 : len0 * 1 ≤ 140737488351232) (w1 : (a1 = none ∧ len1 = 0 ∧ cap1 = 0 ∧ z1 = []) ∨ ∃ x, a1 = some x ∧ len1 ≤ cap1 ∧ cap1 ≤ maxLen ∧ z1.length = cap1 ∧ (∀ i, i < z1.length → w.cell? (x.add i) = some (.int .u8 (z1.getD i 0))) ∧ ∀ n ∈ z1, (Lit.int .u8 n).wf = true) (y1 : len1 * 1 ≤ 140737488351232) (w2 : (Lit.int .i64 a2).wf = true) (w3 : (Lit.int .i64 a3).wf = true) (w4 : (Lit.int .i64 a4).wf = true) :
  Calls Tryd.prog 4 #[.slice a0 len0 cap0, .slice a1 len1 cap1, .int .i64 a2, .int .i64 a3, .int .i64 a4] w fun e w' => e = .returned (.bool true) ∧ Below w.heap.size w w' := by
 obtain ⟨l0, rfl, hr0, hm0, hw0, hc0⟩ := ReadsInt.ofRowC w0
 obtain ⟨l1, rfl, hr1, hm1, hw1, hc1⟩ := ReadsInt.ofRowC w1
 obtain ⟨k, h⟩ := P l0 l1 a2 a3 a4 hm0 y0 hw0 hm1 y1 hw1 w2 w3 w4
 refine (laws_FnSameBits.calls k _ _ l0 _ _ l1 a2 a3 a4 true w hT (Kd.C_of_reads (d := (0 : Int)) (h1 := fun _ => rfl) hr0) hc0 (Kd.C_of_reads (d := (0 : Int)) (h1 := fun _ => rfl) hr1) hc1 h).mono ?_
 rintro e w' ⟨rfl, hd⟩
 exact ⟨rfl, hd⟩


end Go.Proofs.YthgbfmcicpmepaaDoor.V
