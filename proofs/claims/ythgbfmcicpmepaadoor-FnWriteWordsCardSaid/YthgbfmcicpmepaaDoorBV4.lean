import Derived.Test.YthgbfmcicpmepaaDoorBV3
import Derived.Test.YthgbfmcicpmepaaDoorBC5
namespace Go.Proofs.YthgbfmcicpmepaaDoor.V
open Go.RowKit Go.Proofs.YthgbfmcicpmepaaDoorW.PrintWords Go.Proofs.YthgbfmcicpmepaaDoorW.PrintLast Go.Proofs.YthgbfmcicpmepaaDoorW.PrintMore
attribute [local go_sem] max2_int min2_int max_two min_two max_three min_three max_four min_four
set_option linter.unusedVariables false
set_option linter.unusedSimpArgs false

/-! ### laws_FnCopyBits: function 5 -/
mutual
def laws_FnCopyBits.j0 : Nat → List Int → Int → Int → List Int → Int → Bool → Option (Bool)
 | 0, _, _, _, _, _, _ => none
 | k + 1, x0, x1, x2, x3, x4, x23 => if x23 = true then (some true) else ((laws_within.f x0 x1 x2).bind fun t132 => (if t132 = true then ((laws_within.f x3 x4 x2).bind fun t133 => (laws_FnCopyBits.j1 k x0 x1 x2 x3 x4 (!t133))) else (laws_FnCopyBits.j1 k x0 x1 x2 x3 x4 true)))
def laws_FnCopyBits.j1 : Nat → List Int → Int → Int → List Int → Int → Bool → Option (Bool)
 | 0, _, _, _, _, _, _ => none
 | k + 1, x0, x1, x2, x3, x4, x35 => if x35 = true then (some true) else ((spec_BitList.f k x0 x1 x2).bind fun bt134 => (laws_FnCopyBits.l0 k x0 x1 x2 x3 x4 bt134.1 ([] : List Bool) bt134.1 (bt134.1.length : Int) 0))
def laws_FnCopyBits.l0 : Nat → List Int → Int → Int → List Int → Int → List Bool → List Bool → List Bool → Int → Int → Option (Bool)
 | 0, _, _, _, _, _, _, _, _, _, _ => none
 | k + 1, x0, x1, x2, x3, x4, x11, x13, x43, x44, x45 => if x45 < x44 then (if 0 ≤ x45 then (if x45 < (x43.length : Int) then (if x13.length < 140737488355328 then (laws_FnCopyBits.l0 k x0 x1 x2 x3 x4 x11 (x13 ++ [!(rdOf false x43 x45)]) x43 x44 (wrap64 (x45 + 1))) else (none)) else (none)) else (none)) else ((impl_CopyBits.f x0 x1 x2 x3 x4).bind fun t142 => ((laws_changed.f k x3 x4 x11).bind fun t145 => ((laws_same.f t142 t145).bind fun t148 => (if t148 = true then ((impl_InvertBits.f x0 x1 x2 x3 x4).bind fun t149 => ((laws_changed.f k x3 x4 x13).bind fun t152 => ((laws_same.f t149 t152).bind fun t155 => (some t155)))) else (some false)))))
end
def laws_FnCopyBits.f (k : Nat) (l0 : List Int) (a1 : Int) (a2 : Int) (l3 : List Int) (a4 : Int) : Option (Bool) := if (l0.length : Int) > 2147483647 then (laws_FnCopyBits.j0 k l0 a1 a2 l3 a4 true) else (laws_FnCopyBits.j0 k l0 a1 a2 l3 a4 (decide ((l3.length : Int) > 2147483647)))
set_option maxHeartbeats 8000000 in
set_option maxRecDepth 100000 in
theorem laws_FnCopyBits.calls (k : Nat) (A0 : Option Addr) (c0 : Nat) (l0 : List Int) (a1 : Int) (a2 : Int) (A3 : Option Addr) (c3 : Nat) (l3 : List Int) (a4 : Int) (r : Bool) (w : World) (hT : TabAt w) (hr0 : Kd.C (Kd.int .u8) w A0 l0.length l0) (hc0 : l0.length ≤ c0) (hr3 : Kd.C (Kd.int .u8) w A3 l3.length l3) (hc3 : l3.length ≤ c3) (h : laws_FnCopyBits.f k l0 a1 a2 l3 a4 = some r) :
  Calls Tryd.prog 5 #[.slice A0 l0.length c0, .int .i64 a1, .int .i64 a2, .slice A3 l3.length c3, .int .i64 a4] w fun e w' => e = .returned (.bool r) ∧ Below w.heap.size w w' := by
 have HR0 := a0_ hr0
 have HC0 := a0_ hc0
 clear hr0 hc0
 have HR3 := a0_ hr3
 have HC3 := a0_ hc3
 clear hr3 hc3
 have HB := a0_ (Below.refl w.heap.size w)
 have HTAB := a0_ hT
 clear hT
 have H : (if (l0.length : Int) > 2147483647 then (laws_FnCopyBits.j0 k l0 a1 a2 l3 a4 true) else (laws_FnCopyBits.j0 k l0 a1 a2 l3 a4 (decide ((l3.length : Int) > 2147483647)))) = some r := h
 clear h
 have HC6 := a0_ H
 clear H
 go_enter Tryd.func5, Tryd.ntmps5
 go_upto_region 1 with (fail)
 go_cut [23] (fun v23 wc => ∃ (kq : Nat) (x23_5 : Bool), v23 = .bool x23_5 ∧ Aside0 (laws_FnCopyBits.j0 kq l0 a1 a2 l3 a4 x23_5 = some r) ∧ Aside0 (kq ≤ k) ∧ Aside0 (Below w.heap.size w wc))
 case first =>
  have H := HC6.out
  clear HC6
  by_cases c7 : (l0.length : Int) > 2147483647
  ·
   rw [if_pos c7] at H
   have c7b0 : decide (2147483647 < (l0.length : Int)) = true := d2_ c7
   have c7b1 : decide (2147483647 < l0.length) = true := d2_ (by omega)
   clear c7
   (first | rw [c7b0] | (simp only [i64_w, i32_w]; rw [c7b0]) | skip)
   have H' := a0_ H
   clear H
   go_wp2
   go_meet
   case rel => exact ⟨_, (true), (by first | rfl | (simp; done) | (simp [*]; done)), H', ⟨by first | omega | exact Nat.le_refl _⟩, ⟨by repeat (first | (with_reducible first | exact HB.out | apply b1_ | apply b2_ | apply b3_) | exact HB.out)⟩⟩
  ·
   rw [if_neg c7] at H
   have c7b0 : decide (2147483647 < (l0.length : Int)) = false := d3_ c7
   have c7b1 : decide (2147483647 < l0.length) = false := d3_ (by omega)
   clear c7
   (first | rw [c7b0] | (simp only [i64_w, i32_w]; rw [c7b0]) | skip)
   have H' := a0_ H
   clear H
   go_wp2
   go_meet
   case rel => exact ⟨_, (decide ((l3.length : Int) > 2147483647)), (by first | rfl | (simp; done) | (simp [*]; done)), H', ⟨by first | omega | exact Nat.le_refl _⟩, ⟨by repeat (first | (with_reducible first | exact HB.out | apply b1_ | apply b2_ | apply b3_) | exact HB.out)⟩⟩
 case rest =>
  clear HC6
  try clear p2
  try clear c3
  try clear c5
  try clear c7
  try clear c7b0
  try clear c7b1
  obtain ⟨kq, x23_5, rfl, HA, HJ5, HB⟩ := hcut
  cases kq with
  | zero => exact absurd HA.out (by simp [laws_FnCopyBits.j0])
  | succ kj5 =>
   have H := HA.out
   clear HA
   simp only [laws_FnCopyBits.j0] at H
   by_cases c8 : x23_5 = true
   ·
    subst c8
    have H1 : (some true) = some r := by rw [if_pos rfl] at H; exact H
    clear H
    have H := H1
    clear H1
    obtain rfl := o1_ H
    go_wp2
    go_ret
    exact ⟨by first | rfl | (simp [e1_, e2_] <;> rfl) | (simp [*, e1_, e2_] <;> rfl), by repeat (first | (with_reducible first | exact HB.out | apply b1_ | apply b2_ | apply b3_) | exact HB.out)⟩
   ·
    replace c8 := Bool.eq_false_iff.mpr c8
    subst c8
    have H1 : ((laws_within.f l0 a1 a2).bind fun t132 => (if t132 = true then ((laws_within.f l3 a4 a2).bind fun t133 => (laws_FnCopyBits.j1 kj5 l0 a1 a2 l3 a4 (!t133))) else (laws_FnCopyBits.j1 kj5 l0 a1 a2 l3 a4 true))) = some r := by rw [if_neg (show ¬ (false = true) by decide)] at H; exact H
    clear H
    have H := H1
    clear H1
    have HC9 := a0_ H
    clear H
    go_upto_region 3 with (fail)
    go_cut [35] (fun v35 wc => ∃ (kq : Nat) (x35_8 : Bool), v35 = .bool x35_8 ∧ Aside0 (laws_FnCopyBits.j1 kq l0 a1 a2 l3 a4 x35_8 = some r) ∧ Aside0 (kq ≤ kj5) ∧ Aside0 (Below w.heap.size w wc))
    case first =>
     have H := HC9.out
     clear HC9
     replace H := Option.bind_eq_some_iff.mp H
     obtain ⟨t132, A100, H⟩ := H
     replace H : (if t132 = true then ((laws_within.f l3 a4 a2).bind fun t133 => (laws_FnCopyBits.j1 kj5 l0 a1 a2 l3 a4 (!t133))) else (laws_FnCopyBits.j1 kj5 l0 a1 a2 l3 a4 true)) = some r := H
     have A10 := a0_ A100
     clear A100
     by_cases c11 : t132 = true
     ·
      subst c11
      have H1 : ((laws_within.f l3 a4 a2).bind fun t133 => (laws_FnCopyBits.j1 kj5 l0 a1 a2 l3 a4 (!t133))) = some r := by rw [if_pos rfl] at H; exact H
      clear H
      have H := H1
      clear H1
      replace H := Option.bind_eq_some_iff.mp H
      obtain ⟨t133, A120, H⟩ := H
      replace H : (laws_FnCopyBits.j1 kj5 l0 a1 a2 l3 a4 (!t133)) = some r := H
      have A12 := a0_ A120
      clear A120
      have H' := a0_ H
      clear H
      go_wp2_with (first | ((with_reducible refine gate_callee (f := 6) rfl ?_); refine goesL_ (some 27) rfl rfl Tryd.func6 (by kernel_rfl) rfl #[.slice A0 l0.length c0, .int .i64 a1, .int .i64 a2] rfl (by (try simp only [List.map_toArray, List.map_cons, List.map_nil]); first | done | rfl | (simp only [List.length_drop, List.length_take]; rfl)) ?_; (with_reducible refine (laws_within.calls _ _ l0 a1 a2 true _ ?side1 ?side2 A10.out).mono ?_); (case side1 => repeat (first | exact (Kd.C_below HR0.out HB.out) | (with_reducible refine Kd.C_alloc ?_ _) | (with_reducible refine Kd.C_drewN ?_ _) | (with_reducible refine Kd.C_drew ?_))); (case side2 => exact HC0.out); rintro e w' ⟨rfl, ⟨nd, rfl⟩⟩; refine ⟨_, rfl, ?_⟩) | (go_at_call 6; (with_reducible refine (laws_within.calls _ _ l3 a4 a2 t133 _ ?side1 ?side2 A12.out).mono ?_); (case side1 => repeat (first | exact (Kd.C_below HR3.out (by repeat (first | (with_reducible first | exact HB.out | apply b1_ | apply b2_ | apply b3_) | exact HB.out))) | (with_reducible refine Kd.C_alloc ?_ _) | (with_reducible refine Kd.C_drewN ?_ _) | (with_reducible refine Kd.C_drew ?_))); (case side2 => exact HC3.out); rintro e w' ⟨rfl, ⟨nd, rfl⟩⟩))
      go_meet
      case rel => exact ⟨_, (!t133), (by first | rfl | (simp; done) | (simp [*]; done)), H', ⟨by have := HJ5.out; first | omega | exact Nat.le_refl _⟩, ⟨by repeat (first | (with_reducible first | exact HB.out | apply b1_ | apply b2_ | apply b3_) | exact HB.out)⟩⟩
     ·
      replace c11 := Bool.eq_false_iff.mpr c11
      subst c11
      have H1 : (laws_FnCopyBits.j1 kj5 l0 a1 a2 l3 a4 true) = some r := by rw [if_neg (show ¬ (false = true) by decide)] at H; exact H
      clear H
      have H := H1
      clear H1
      have H' := a0_ H
      clear H
      go_wp2_with (first | ((with_reducible refine gate_callee (f := 6) rfl ?_); refine goesL_ (some 27) rfl rfl Tryd.func6 (by kernel_rfl) rfl #[.slice A0 l0.length c0, .int .i64 a1, .int .i64 a2] rfl (by (try simp only [List.map_toArray, List.map_cons, List.map_nil]); first | done | rfl | (simp only [List.length_drop, List.length_take]; rfl)) ?_; (with_reducible refine (laws_within.calls _ _ l0 a1 a2 false _ ?side1 ?side2 A10.out).mono ?_); (case side1 => repeat (first | exact (Kd.C_below HR0.out HB.out) | (with_reducible refine Kd.C_alloc ?_ _) | (with_reducible refine Kd.C_drewN ?_ _) | (with_reducible refine Kd.C_drew ?_))); (case side2 => exact HC0.out); rintro e w' ⟨rfl, ⟨nd, rfl⟩⟩; refine ⟨_, rfl, ?_⟩))
      go_meet
      case rel => exact ⟨_, (true), (by first | rfl | (simp; done) | (simp [*]; done)), H', ⟨by have := HJ5.out; first | omega | exact Nat.le_refl _⟩, ⟨by repeat (first | (with_reducible first | exact HB.out | apply b1_ | apply b2_ | apply b3_) | exact HB.out)⟩⟩
    case rest =>
     clear HC9
     try clear c1
     try clear p2
     try clear c3
     try clear c5
     try clear c6
     try clear c7
     try clear c7b0
     try clear c7b1
     try clear c8
     try clear c11
     try clear p2
     obtain ⟨kq, x35_8, rfl, HA, HJ8, HB⟩ := hcut
     cases kq with
     | zero => exact absurd HA.out (by simp [laws_FnCopyBits.j1])
     | succ kj8 =>
      have H := HA.out
      clear HA
      simp only [laws_FnCopyBits.j1] at H
      by_cases c13 : x35_8 = true
      ·
       subst c13
       have H1 : (some true) = some r := by rw [if_pos rfl] at H; exact H
       clear H
       have H := H1
       clear H1
       obtain rfl := o1_ H
       go_wp2
       go_ret
       exact ⟨by first | rfl | (simp [e1_, e2_] <;> rfl) | (simp [*, e1_, e2_] <;> rfl), by repeat (first | (with_reducible first | exact HB.out | apply b1_ | apply b2_ | apply b3_) | exact HB.out)⟩
      ·
       replace c13 := Bool.eq_false_iff.mpr c13
       subst c13
       have H1 : ((spec_BitList.f kj8 l0 a1 a2).bind fun bt134 => (laws_FnCopyBits.l0 kj8 l0 a1 a2 l3 a4 bt134.1 ([] : List Bool) bt134.1 (bt134.1.length : Int) 0)) = some r := by rw [if_neg (show ¬ (false = true) by decide)] at H; exact H
       clear H
       have H := H1
       clear H1
       replace H := Option.bind_eq_some_iff.mp H
       obtain ⟨⟨t134, t135⟩, A140, H⟩ := H
       replace H : (laws_FnCopyBits.l0 kj8 l0 a1 a2 l3 a4 t134 ([] : List Bool) t134 (t134.length : Int) 0) = some r := H
       have A14 := a0_ A140
       clear A140
       have H' := a0_ H
       clear H
       go_wp2_with (first | ((with_reducible refine gate_callee (f := 11) rfl ?_); refine goesL_ (some 40) rfl rfl Tryd.func11 (by kernel_rfl) rfl #[.slice A0 l0.length c0, .int .i64 a1, .int .i64 a2] rfl (by (try simp only [List.map_toArray, List.map_cons, List.map_nil]); first | done | rfl | (simp only [List.length_drop, List.length_take]; rfl)) ?_; (with_reducible refine (spec_BitList.calls kj8 _ _ l0 a1 a2 t134 t135 _ ?side1 ?side2 A14.out).mono ?_); (case side1 => repeat (first | exact (Kd.C_below HR0.out HB.out) | (with_reducible refine Kd.C_alloc ?_ _) | (with_reducible refine Kd.C_drewN ?_ _) | (with_reducible refine Kd.C_drew ?_))); (case side2 => exact HC0.out); rintro e w15 ⟨v136, rfl, ho0, hb⟩; refine ⟨_, rfl, ?_⟩; have n0_ := a0_ (Kd.R_lower ho0 (below_size (by repeat (first | (with_reducible first | exact HB.out | apply b1_ | apply b2_ | apply b3_) | exact HB.out)))); have n1_ := a0_ (below_step (by repeat (first | (with_reducible first | exact HB.out | apply b1_ | apply b2_ | apply b3_) | exact HB.out)) hb); clear HB; have HO137 := n0_; have HB := n1_; clear n0_ n1_; (try clear hb); (try clear hb2); (try clear hk); (try clear hi); (try clear ho0); obtain ⟨Ao16, co16, eo16⟩ := Kd.R_slice HO137.out; subst eo16))
       go_loopg [13, 45] kj8 (fun kq v13 v45 w' => ∃ (x13_3 : List Bool) (x45_3 : Int), v45 = .int .i64 x45_3 ∧ Aside0 (laws_FnCopyBits.l0 kq l0 a1 a2 l3 a4 t134 x13_3 t134 (t134.length : Int) x45_3 = some r) ∧ Aside0 (kq ≤ kj8) ∧ Aside0 (Kd.R Kd.bool 4 w' w.heap.size (fun k_ => some k_ ≠ (v13 : Value).ownBlock) (.slice Ao16 t134.length co16) t134) ∧ Aside0 (Kd.R Kd.bool 4 w' w.heap.size (fun k_ => some k_ ≠ ((.slice Ao16 t134.length co16) : Value).ownBlock ∧ some k_ ≠ ((.slice Ao16 t134.length co16) : Value).ownBlock) v13 x13_3) ∧ Aside0 (Kd.R Kd.bool 4 w' w.heap.size (fun k_ => some k_ ≠ (v13 : Value).ownBlock) (.slice Ao16 t134.length co16) t134) ∧ Aside0 (Below w.heap.size w w'))
       case atStart => exact ⟨(([] : List Bool)), (0), (by first | rfl | (simp; done) | (simp [*]; done)), H', ⟨Nat.le_refl _⟩, ⟨by (with_reducible repeat (first | apply r1_ | apply r2_ | apply r3_)); exact Kd.R_mono HO137.out (fun _ hk => (by simp [Value.ownBlock]))⟩, ⟨by first | exact Kd.R_nil _ _ _ _ _ | exact Kd.N_nil _ _ _ _ _ | exact Kd.V_nil _ _ _ _ _ | exact Kd.Q_nil _ _ _ _ _ | exact Kd.S_nil _ _ _ _ _⟩, ⟨by (with_reducible repeat (first | apply r1_ | apply r2_ | apply r3_)); exact Kd.R_mono HO137.out (fun _ hk => (by simp [Value.ownBlock]))⟩, ⟨by repeat (first | (with_reducible first | exact HB.out | apply b1_ | apply b2_ | apply b3_) | exact HB.out)⟩⟩
       case round =>
        clear H'
        try clear c1
        try clear p2
        try clear c3
        try clear c5
        try clear c6
        try clear c7
        try clear c7b0
        try clear c7b1
        try clear c8
        try clear c11
        try clear c13
        try clear p2
        obtain ⟨x13_3, x45_3, rfl, HA, HK3, HO_11, HO_13, HO_43, HB⟩ := hrel
        cases gk with
        | zero => exact absurd HA.out (by simp [laws_FnCopyBits.l0])
        | succ k3 =>
         have H := HA.out
         clear HA
         simp only [laws_FnCopyBits.l0] at H
         by_cases c17 : x45_3 < (t134.length : Int)
         ·
          rw [if_pos c17] at H
          have c17b0 : decide (x45_3 < (t134.length : Int)) = true := d2_ c17
          clear c17
          by_cases c18 : 0 ≤ x45_3
          ·
           rw [if_pos c18] at H
           have c18b0 : decide (0 ≤ x45_3) = true := d2_ c18
           clear c18
           by_cases c19 : x45_3 < (t134.length : Int)
           ·
            rw [if_pos c19] at H
            have c19b0 : decide (x45_3 < (t134.length : Int)) = true := d2_ c19
            clear c19
            by_cases c20 : x13_3.length < 140737488355328
            ·
             rw [if_pos c20] at H
             have LMc20 := a0_ c20
             clear c20
             obtain ⟨y139, hy139⟩ : ∃ y_ : List Bool, y_ = (x13_3 ++ [!(rdOf false t134 x45_3)]) := ⟨_, rfl⟩
             replace H : (laws_FnCopyBits.l0 k3 l0 a1 a2 l3 a4 t134 y139 t134 (t134.length : Int) (wrap64 (x45_3 + 1))) = some r := by first | (rw [hy139]; with_reducible exact H) | (have H2_ := (o2_ _ _).symm.trans H; rw [hy139]; with_reducible exact H2_) | (have H2_ := (o2_ _ _).symm.trans H; with_reducible exact H2_) | with_reducible exact H | (rw [hy139]; exact H) | exact H
             have Ny139 := a0_ hy139
             clear hy139
             have H' := a0_ H
             clear H
             have p138 : 0 ≤ (x45_3 : Int) := d1_ (by first | (with_reducible assumption) | assumption)
             have q138 : x45_3 < (t134.length : Int) := d1_ (by first | (with_reducible assumption) | assumption)
             obtain ⟨ad138, e138, hx138_0⟩ := Kd.at_bool (Kd.R_reads' HO_43.out).2.2 x45_3 p138 q138
             cases e138
             replace p138 := eq_true p138
             replace q138 := eq_true q138
             go_wp2_with (first | ((with_reducible refine gate_builtin (b := .append) (xs := #[.tmp 49, .tmp 52]) rfl ?_); (try (refine gate_guard (by rfl) ?_; dsimp only)); at_builtin; refine Kd.R_append Kd.bool (w0 := w) w.heap.size rfl (.tmp 49) (.tmp 52) 23 4 (.bool false) 1 rfl Tryd.underlying23 info4 rfl (by decide) (by omega) u13 x13_3 (!(rdOf false t134 x45_3)) [.bool (!(rdOf false t134 x45_3))] (fun k_ => some k_ ≠ (.slice (some ad138) t134.length co16 : Value).ownBlock ∧ some k_ ≠ (.slice (some ad138) t134.length co16 : Value).ownBlock) (fun _ => False) rfl rfl ?aP (fun _ hk => hk.elim) ?aF ?aO ?aB ?aS ?aL ?_; (case aP => exact rfl); (case aB => exact (by repeat (first | (with_reducible first | exact HB.out | apply b1_ | apply b2_ | apply b3_) | exact HB.out))); (case aF => exact (fun k_ hk => ⟨Kd.fresh' (Kd.R_lt (by (with_reducible repeat (first | apply r1_ | apply r2_ | apply r3_)); exact HO_11.out)) k_ hk, Kd.fresh' (Kd.R_lt (by (with_reducible repeat (first | apply r1_ | apply r2_ | apply r3_)); exact HO_43.out)) k_ hk⟩)); (case aO => exact (by (with_reducible repeat (first | apply r1_ | apply r2_ | apply r3_)); exact HO_13.out)); (case aS => exact (below_size (by repeat (first | (with_reducible first | exact HB.out | apply b1_ | apply b2_ | apply b3_) | exact HB.out)))); (case aL => have := LMc20.out; omega); intro v140 w21 ho hb hg hat; rw [← Ny139.out] at ho; have n0_ := a0_ (Kd.R_after (ok := (fun _ => True)) (by (with_reducible repeat (first | apply r1_ | apply r2_ | apply r3_)); exact Kd.R_mono HO_11.out (fun _ hk => ⟨trivial, hk⟩)) hg hat); have n1_ := a0_ (Kd.R_after (ok := (fun _ => True)) (by (with_reducible repeat (first | apply r1_ | apply r2_ | apply r3_)); exact Kd.R_mono HO_43.out (fun _ hk => ⟨trivial, hk⟩)) hg hat); have n2_ := a0_ (hb); have n3_ := a0_ (ho); clear HO_11; clear HO_43; clear HB; clear HO_13; have HO_11 := n0_; have HO_43 := n1_; have HB := n2_; have HO141 := n3_; clear n0_ n1_ n2_ n3_; clear ho hb hg hat))
             go_roundg k3
             case measure => have := HJ5.out; have := HJ8.out; have := HK3.out; omega
             case rel => exact ⟨(y139), (wrap64 (x45_3 + 1)), (by first | rfl | (simp; done) | (simp [*]; done)), H', ⟨by have := HJ5.out; have := HJ8.out; have := HK3.out; omega⟩, ⟨by (with_reducible repeat (first | apply r1_ | apply r2_ | apply r3_)); exact Kd.R_mono HO_11.out (fun _ hk => hk.2)⟩, ⟨by (with_reducible repeat (first | apply r1_ | apply r2_ | apply r3_)); exact HO141.out⟩, ⟨by (with_reducible repeat (first | apply r1_ | apply r2_ | apply r3_)); exact Kd.R_mono HO_43.out (fun _ hk => hk.2)⟩, ⟨by repeat (first | (with_reducible first | exact HB.out | apply b1_ | apply b2_ | apply b3_) | exact HB.out)⟩⟩
            ·
             rw [if_neg c20] at H
             exact absurd H (by simp)
           ·
            rw [if_neg c19] at H
            exact absurd H (by simp)
          ·
           rw [if_neg c18] at H
           exact absurd H (by simp)
         ·
          rw [if_neg c17] at H
          have c17b0 : decide (x45_3 < (t134.length : Int)) = false := d3_ c17
          clear c17
          replace H := Option.bind_eq_some_iff.mp H
          obtain ⟨t142, A220, H⟩ := H
          replace H : ((laws_changed.f k3 l3 a4 t134).bind fun t145 => ((laws_same.f t142 t145).bind fun t148 => (if t148 = true then ((impl_InvertBits.f l0 a1 a2 l3 a4).bind fun t149 => ((laws_changed.f k3 l3 a4 x13_3).bind fun t152 => ((laws_same.f t149 t152).bind fun t155 => (some t155)))) else (some false)))) = some r := H
          have A22 := a0_ A220
          clear A220
          replace H := Option.bind_eq_some_iff.mp H
          obtain ⟨t145, A230, H⟩ := H
          replace H : ((laws_same.f t142 t145).bind fun t148 => (if t148 = true then ((impl_InvertBits.f l0 a1 a2 l3 a4).bind fun t149 => ((laws_changed.f k3 l3 a4 x13_3).bind fun t152 => ((laws_same.f t149 t152).bind fun t155 => (some t155)))) else (some false))) = some r := H
          have A23 := a0_ A230
          clear A230
          replace H := Option.bind_eq_some_iff.mp H
          obtain ⟨t148, A240, H⟩ := H
          replace H : (if t148 = true then ((impl_InvertBits.f l0 a1 a2 l3 a4).bind fun t149 => ((laws_changed.f k3 l3 a4 x13_3).bind fun t152 => ((laws_same.f t149 t152).bind fun t155 => (some t155)))) else (some false)) = some r := H
          have A24 := a0_ A240
          clear A240
          by_cases c25 : t148 = true
          ·
           subst c25
           have H1 : ((impl_InvertBits.f l0 a1 a2 l3 a4).bind fun t149 => ((laws_changed.f k3 l3 a4 x13_3).bind fun t152 => ((laws_same.f t149 t152).bind fun t155 => (some t155)))) = some r := by rw [if_pos rfl] at H; exact H
           clear H
           have H := H1
           clear H1
           replace H := Option.bind_eq_some_iff.mp H
           obtain ⟨t149, A260, H⟩ := H
           replace H : ((laws_changed.f k3 l3 a4 x13_3).bind fun t152 => ((laws_same.f t149 t152).bind fun t155 => (some t155))) = some r := H
           have A26 := a0_ A260
           clear A260
           replace H := Option.bind_eq_some_iff.mp H
           obtain ⟨t152, A270, H⟩ := H
           replace H : ((laws_same.f t149 t152).bind fun t155 => (some t155)) = some r := H
           have A27 := a0_ A270
           clear A270
           replace H := Option.bind_eq_some_iff.mp H
           obtain ⟨t155, A280, H⟩ := H
           replace H : (some t155) = some r := H
           have A28 := a0_ A280
           clear A280
           obtain rfl := o1_ H
           go_wp2_with (first | ((with_reducible refine gate_callee (f := 14) rfl ?_); refine goesL_ (some 60) rfl rfl Tryd.func14 (by kernel_rfl) rfl #[.slice A0 l0.length c0, .int .i64 a1, .int .i64 a2, .slice A3 l3.length c3, .int .i64 a4] rfl (by (try simp only [List.map_toArray, List.map_cons, List.map_nil]); first | done | rfl | (simp only [List.length_drop, List.length_take]; rfl)) ?_; (with_reducible refine (impl_CopyBits.calls _ _ l0 a1 a2 _ _ l3 a4 t142 _ ?side0 ?side1 ?side2 ?side3 ?side4 A22.out).mono ?_); (case side0 => exact HTAB.out.below (by repeat (first | (with_reducible first | exact HB.out | apply b1_ | apply below_drewN | apply below_drew | apply b4_) | exact HB.out))); (case side1 => repeat (first | exact (Kd.C_below HR0.out HB.out) | (with_reducible refine Kd.C_alloc ?_ _) | (with_reducible refine Kd.C_drewN ?_ _) | (with_reducible refine Kd.C_drew ?_))); (case side2 => exact HC0.out); (case side3 => repeat (first | exact (Kd.C_below HR3.out HB.out) | (with_reducible refine Kd.C_alloc ?_ _) | (with_reducible refine Kd.C_drewN ?_ _) | (with_reducible refine Kd.C_drew ?_))); (case side4 => exact HC3.out); rintro e w29 ⟨v143, rfl, ho0, hb⟩; refine ⟨_, rfl, ?_⟩; have n0_ := a0_ (Kd.R_below (by (with_reducible repeat (first | apply r1_ | apply r2_ | apply r3_)); exact HO_11.out) hb); have n1_ := a0_ (Kd.R_below (by (with_reducible repeat (first | apply r1_ | apply r2_ | apply r3_)); exact HO_13.out) hb); have n2_ := a0_ (Kd.R_below (by (with_reducible repeat (first | apply r1_ | apply r2_ | apply r3_)); exact HO_43.out) hb); have n3_ := a0_ (Kd.R_lower ho0 (below_size (by repeat (first | (with_reducible first | exact HB.out | apply b1_ | apply b2_ | apply b3_) | exact HB.out)))); have n4_ := a0_ (below_step (by repeat (first | (with_reducible first | exact HB.out | apply b1_ | apply b2_ | apply b3_) | exact HB.out)) hb); clear HO_11; clear HO_13; clear HO_43; clear HB; have HO_11 := n0_; have HO_13 := n1_; have HO_43 := n2_; have HO144 := n3_; have HB := n4_; clear n0_ n1_ n2_ n3_ n4_; (try clear hb); (try clear hb2); (try clear hk); (try clear hi); (try clear ho0)) | ((with_reducible refine gate_callee (f := 10) rfl ?_); refine goesL_ (some 64) rfl rfl Tryd.func10 (by kernel_rfl) rfl #[.slice A3 l3.length c3, .int .i64 a4, .slice Ao16 t134.length co16] rfl (by (try simp only [List.map_toArray, List.map_cons, List.map_nil]); first | done | rfl | (simp only [List.length_drop, List.length_take]; rfl)) ?_; (with_reducible refine (laws_changed.calls k3 _ _ l3 a4 _ _ t134 t145 _ ?side1 ?side2 ?side3 ?side4 A23.out).mono ?_); (case side1 => repeat (first | exact (Kd.C_below HR3.out HB.out) | (with_reducible refine Kd.C_alloc ?_ _) | (with_reducible refine Kd.C_drewN ?_ _) | (with_reducible refine Kd.C_drew ?_))); (case side2 => exact HC3.out); (case side3 => repeat (first | exact (Kd.R_reads' HO_11.out).2.2 | (with_reducible refine Kd.C_alloc ?_ _) | (with_reducible refine Kd.C_drewN ?_ _) | (with_reducible refine Kd.C_drew ?_))); (case side4 => exact (Kd.R_reads' HO_11.out).2.1); rintro e w30 ⟨v146, rfl, ho0, hb⟩; refine ⟨_, rfl, ?_⟩; have n0_ := a0_ (Kd.R_below (by (with_reducible repeat (first | apply r1_ | apply r2_ | apply r3_)); exact HO_11.out) hb); have n1_ := a0_ (Kd.R_below (by (with_reducible repeat (first | apply r1_ | apply r2_ | apply r3_)); exact HO_13.out) hb); have n2_ := a0_ (Kd.R_below (by (with_reducible repeat (first | apply r1_ | apply r2_ | apply r3_)); exact HO_43.out) hb); have n3_ := a0_ (Kd.R_elder' (by (with_reducible repeat (first | apply r1_ | apply r2_ | apply r3_)); exact HO144.out) (Kd.R_base ho0) hb); have n4_ := a0_ (Kd.R_lower (Kd.R_new' ho0 (Kd.R_lt (by (with_reducible repeat (first | apply r1_ | apply r2_ | apply r3_)); exact HO144.out))) (below_size (by repeat (first | (with_reducible first | exact HB.out | apply b1_ | apply b2_ | apply b3_) | exact HB.out)))); have n5_ := a0_ (below_step (by repeat (first | (with_reducible first | exact HB.out | apply b1_ | apply b2_ | apply b3_) | exact HB.out)) hb); clear HO_11; clear HO_13; clear HO_43; clear HO144; clear HB; have HO_11 := n0_; have HO_13 := n1_; have HO_43 := n2_; have HO144 := n3_; have HO147 := n4_; have HB := n5_; clear n0_ n1_ n2_ n3_ n4_ n5_; (try clear hb); (try clear hb2); (try clear hk); (try clear hi); (try clear ho0); obtain ⟨Ao31, co31, eo31⟩ := Kd.R_slice HO144.out; subst eo31; obtain ⟨Ao32, co32, eo32⟩ := Kd.R_slice HO147.out; subst eo32) | ((with_reducible refine gate_callee (f := 8) rfl ?_); refine goesL_ (some 65) rfl rfl Tryd.func8 (by kernel_rfl) rfl #[.slice Ao31 t142.length co31, .slice Ao32 t145.length co32] rfl (by (try simp only [List.map_toArray, List.map_cons, List.map_nil]); first | done | rfl | (simp only [List.length_drop, List.length_take]; rfl)) ?_; (with_reducible refine (laws_same.calls _ _ t142 _ _ t145 true _ ?side1 ?side2 ?side3 ?side4 A24.out).mono ?_); (case side1 => repeat (first | exact (Kd.R_reads' HO144.out).2.2 | (with_reducible refine Kd.C_alloc ?_ _) | (with_reducible refine Kd.C_drewN ?_ _) | (with_reducible refine Kd.C_drew ?_))); (case side2 => exact (Kd.R_reads' HO144.out).2.1); (case side3 => repeat (first | exact (Kd.R_reads' HO147.out).2.2 | (with_reducible refine Kd.C_alloc ?_ _) | (with_reducible refine Kd.C_drewN ?_ _) | (with_reducible refine Kd.C_drew ?_))); (case side4 => exact (Kd.R_reads' HO147.out).2.1); rintro e w' ⟨rfl, ⟨nd, rfl⟩⟩; refine ⟨_, rfl, ?_⟩) | (go_at_call 15; (with_reducible refine (impl_InvertBits.calls _ _ l0 a1 a2 _ _ l3 a4 t149 _ ?side0 ?side1 ?side2 ?side3 ?side4 A26.out).mono ?_); (case side0 => exact HTAB.out.below (by repeat (first | (with_reducible first | exact HB.out | apply b1_ | apply below_drewN | apply below_drew | apply b4_) | exact HB.out))); (case side1 => repeat (first | exact (Kd.C_below HR0.out (by repeat (first | (with_reducible first | exact HB.out | apply b1_ | apply b2_ | apply b3_) | exact HB.out))) | (with_reducible refine Kd.C_alloc ?_ _) | (with_reducible refine Kd.C_drewN ?_ _) | (with_reducible refine Kd.C_drew ?_))); (case side2 => exact HC0.out); (case side3 => repeat (first | exact (Kd.C_below HR3.out (by repeat (first | (with_reducible first | exact HB.out | apply b1_ | apply b2_ | apply b3_) | exact HB.out))) | (with_reducible refine Kd.C_alloc ?_ _) | (with_reducible refine Kd.C_drewN ?_ _) | (with_reducible refine Kd.C_drew ?_))); (case side4 => exact HC3.out); rintro e w33 ⟨v150, rfl, ho0, hb⟩; have n0_ := a0_ (Kd.R_below (by (with_reducible repeat (first | apply r1_ | apply r2_ | apply r3_)); exact HO_11.out) hb); have n1_ := a0_ (Kd.R_below (by (with_reducible repeat (first | apply r1_ | apply r2_ | apply r3_)); exact HO_13.out) hb); have n2_ := a0_ (Kd.R_below (by (with_reducible repeat (first | apply r1_ | apply r2_ | apply r3_)); exact HO_43.out) hb); have n3_ := a0_ (Kd.R_elder' (by (with_reducible repeat (first | apply r1_ | apply r2_ | apply r3_)); exact HO144.out) (Kd.R_base ho0) hb); have n4_ := a0_ (Kd.R_elder' (by (with_reducible repeat (first | apply r1_ | apply r2_ | apply r3_)); exact HO147.out) (Kd.R_base ho0) hb); have n5_ := a0_ (Kd.R_lower (Kd.R_new' (Kd.R_new' ho0 (Kd.R_lt (by (with_reducible repeat (first | apply r1_ | apply r2_ | apply r3_)); exact HO144.out))) (Kd.R_lt (by (with_reducible repeat (first | apply r1_ | apply r2_ | apply r3_)); exact HO147.out))) (below_size (by repeat (first | (with_reducible first | exact HB.out | apply b1_ | apply b2_ | apply b3_) | exact HB.out)))); have n6_ := a0_ (below_step (by repeat (first | (with_reducible first | exact HB.out | apply b1_ | apply b2_ | apply b3_) | exact HB.out)) hb); clear HO_11; clear HO_13; clear HO_43; clear HO144; clear HO147; clear HB; have HO_11 := n0_; have HO_13 := n1_; have HO_43 := n2_; have HO144 := n3_; have HO147 := n4_; have HO151 := n5_; have HB := n6_; clear n0_ n1_ n2_ n3_ n4_ n5_ n6_; (try clear hb); (try clear hb2); (try clear hk); (try clear hi); (try clear ho0); obtain ⟨Ao34, co34, eo34⟩ := Kd.R_slice HO_13.out; subst eo34) | (go_at_call 10; (with_reducible refine (laws_changed.calls k3 _ _ l3 a4 _ _ x13_3 t152 _ ?side1 ?side2 ?side3 ?side4 A27.out).mono ?_); (case side1 => repeat (first | exact (Kd.C_below HR3.out HB.out) | (with_reducible refine Kd.C_alloc ?_ _) | (with_reducible refine Kd.C_drewN ?_ _) | (with_reducible refine Kd.C_drew ?_))); (case side2 => exact HC3.out); (case side3 => repeat (first | exact (Kd.R_reads' HO_13.out).2.2 | (with_reducible refine Kd.C_alloc ?_ _) | (with_reducible refine Kd.C_drewN ?_ _) | (with_reducible refine Kd.C_drew ?_))); (case side4 => exact (Kd.R_reads' HO_13.out).2.1); rintro e w35 ⟨v153, rfl, ho0, hb⟩; have n0_ := a0_ (Kd.R_below (by (with_reducible repeat (first | apply r1_ | apply r2_ | apply r3_)); exact HO_11.out) hb); have n1_ := a0_ (Kd.R_below (by (with_reducible repeat (first | apply r1_ | apply r2_ | apply r3_)); exact HO_13.out) hb); have n2_ := a0_ (Kd.R_below (by (with_reducible repeat (first | apply r1_ | apply r2_ | apply r3_)); exact HO_43.out) hb); have n3_ := a0_ (Kd.R_elder' (by (with_reducible repeat (first | apply r1_ | apply r2_ | apply r3_)); exact HO144.out) (Kd.R_base ho0) hb); have n4_ := a0_ (Kd.R_elder' (by (with_reducible repeat (first | apply r1_ | apply r2_ | apply r3_)); exact HO147.out) (Kd.R_base ho0) hb); have n5_ := a0_ (Kd.R_elder' (by (with_reducible repeat (first | apply r1_ | apply r2_ | apply r3_)); exact HO151.out) (Kd.R_base ho0) hb); have n6_ := a0_ (Kd.R_lower (Kd.R_new' (Kd.R_new' (Kd.R_new' ho0 (Kd.R_lt (by (with_reducible repeat (first | apply r1_ | apply r2_ | apply r3_)); exact HO144.out))) (Kd.R_lt (by (with_reducible repeat (first | apply r1_ | apply r2_ | apply r3_)); exact HO147.out))) (Kd.R_lt (by (with_reducible repeat (first | apply r1_ | apply r2_ | apply r3_)); exact HO151.out))) (below_size (by repeat (first | (with_reducible first | exact HB.out | apply b1_ | apply b2_ | apply b3_) | exact HB.out)))); have n7_ := a0_ (below_step (by repeat (first | (with_reducible first | exact HB.out | apply b1_ | apply b2_ | apply b3_) | exact HB.out)) hb); clear HO_11; clear HO_13; clear HO_43; clear HO144; clear HO147; clear HO151; clear HB; have HO_11 := n0_; have HO_13 := n1_; have HO_43 := n2_; have HO144 := n3_; have HO147 := n4_; have HO151 := n5_; have HO154 := n6_; have HB := n7_; clear n0_ n1_ n2_ n3_ n4_ n5_ n6_ n7_; (try clear hb); (try clear hb2); (try clear hk); (try clear hi); (try clear ho0); obtain ⟨Ao36, co36, eo36⟩ := Kd.R_slice HO151.out; subst eo36; obtain ⟨Ao37, co37, eo37⟩ := Kd.R_slice HO154.out; subst eo37) | (go_at_call 8; (with_reducible refine (laws_same.calls _ _ t149 _ _ t152 t155 _ ?side1 ?side2 ?side3 ?side4 A28.out).mono ?_); (case side1 => repeat (first | exact (Kd.R_reads' HO151.out).2.2 | (with_reducible refine Kd.C_alloc ?_ _) | (with_reducible refine Kd.C_drewN ?_ _) | (with_reducible refine Kd.C_drew ?_))); (case side2 => exact (Kd.R_reads' HO151.out).2.1); (case side3 => repeat (first | exact (Kd.R_reads' HO154.out).2.2 | (with_reducible refine Kd.C_alloc ?_ _) | (with_reducible refine Kd.C_drewN ?_ _) | (with_reducible refine Kd.C_drew ?_))); (case side4 => exact (Kd.R_reads' HO154.out).2.1); rintro e w' ⟨rfl, ⟨nd, rfl⟩⟩))
           go_ret
           exact ⟨by first | rfl | (simp [e1_, e2_] <;> rfl) | (simp [*, e1_, e2_] <;> rfl), by repeat (first | (with_reducible first | exact HB.out | apply b1_ | apply b2_ | apply b3_) | exact HB.out)⟩
          ·
           replace c25 := Bool.eq_false_iff.mpr c25
           subst c25
           have H1 : (some false) = some r := by rw [if_neg (show ¬ (false = true) by decide)] at H; exact H
           clear H
           have H := H1
           clear H1
           obtain rfl := o1_ H
           go_wp2_with (first | ((with_reducible refine gate_callee (f := 14) rfl ?_); refine goesL_ (some 60) rfl rfl Tryd.func14 (by kernel_rfl) rfl #[.slice A0 l0.length c0, .int .i64 a1, .int .i64 a2, .slice A3 l3.length c3, .int .i64 a4] rfl (by (try simp only [List.map_toArray, List.map_cons, List.map_nil]); first | done | rfl | (simp only [List.length_drop, List.length_take]; rfl)) ?_; (with_reducible refine (impl_CopyBits.calls _ _ l0 a1 a2 _ _ l3 a4 t142 _ ?side0 ?side1 ?side2 ?side3 ?side4 A22.out).mono ?_); (case side0 => exact HTAB.out.below (by repeat (first | (with_reducible first | exact HB.out | apply b1_ | apply below_drewN | apply below_drew | apply b4_) | exact HB.out))); (case side1 => repeat (first | exact (Kd.C_below HR0.out HB.out) | (with_reducible refine Kd.C_alloc ?_ _) | (with_reducible refine Kd.C_drewN ?_ _) | (with_reducible refine Kd.C_drew ?_))); (case side2 => exact HC0.out); (case side3 => repeat (first | exact (Kd.C_below HR3.out HB.out) | (with_reducible refine Kd.C_alloc ?_ _) | (with_reducible refine Kd.C_drewN ?_ _) | (with_reducible refine Kd.C_drew ?_))); (case side4 => exact HC3.out); rintro e w38 ⟨v143, rfl, ho0, hb⟩; refine ⟨_, rfl, ?_⟩; have n0_ := a0_ (Kd.R_below (by (with_reducible repeat (first | apply r1_ | apply r2_ | apply r3_)); exact HO_11.out) hb); have n1_ := a0_ (Kd.R_below (by (with_reducible repeat (first | apply r1_ | apply r2_ | apply r3_)); exact HO_13.out) hb); have n2_ := a0_ (Kd.R_below (by (with_reducible repeat (first | apply r1_ | apply r2_ | apply r3_)); exact HO_43.out) hb); have n3_ := a0_ (Kd.R_lower ho0 (below_size (by repeat (first | (with_reducible first | exact HB.out | apply b1_ | apply b2_ | apply b3_) | exact HB.out)))); have n4_ := a0_ (below_step (by repeat (first | (with_reducible first | exact HB.out | apply b1_ | apply b2_ | apply b3_) | exact HB.out)) hb); clear HO_11; clear HO_13; clear HO_43; clear HB; have HO_11 := n0_; have HO_13 := n1_; have HO_43 := n2_; have HO144 := n3_; have HB := n4_; clear n0_ n1_ n2_ n3_ n4_; (try clear hb); (try clear hb2); (try clear hk); (try clear hi); (try clear ho0)) | ((with_reducible refine gate_callee (f := 10) rfl ?_); refine goesL_ (some 64) rfl rfl Tryd.func10 (by kernel_rfl) rfl #[.slice A3 l3.length c3, .int .i64 a4, .slice Ao16 t134.length co16] rfl (by (try simp only [List.map_toArray, List.map_cons, List.map_nil]); first | done | rfl | (simp only [List.length_drop, List.length_take]; rfl)) ?_; (with_reducible refine (laws_changed.calls k3 _ _ l3 a4 _ _ t134 t145 _ ?side1 ?side2 ?side3 ?side4 A23.out).mono ?_); (case side1 => repeat (first | exact (Kd.C_below HR3.out HB.out) | (with_reducible refine Kd.C_alloc ?_ _) | (with_reducible refine Kd.C_drewN ?_ _) | (with_reducible refine Kd.C_drew ?_))); (case side2 => exact HC3.out); (case side3 => repeat (first | exact (Kd.R_reads' HO_11.out).2.2 | (with_reducible refine Kd.C_alloc ?_ _) | (with_reducible refine Kd.C_drewN ?_ _) | (with_reducible refine Kd.C_drew ?_))); (case side4 => exact (Kd.R_reads' HO_11.out).2.1); rintro e w39 ⟨v146, rfl, ho0, hb⟩; refine ⟨_, rfl, ?_⟩; have n0_ := a0_ (Kd.R_below (by (with_reducible repeat (first | apply r1_ | apply r2_ | apply r3_)); exact HO_11.out) hb); have n1_ := a0_ (Kd.R_below (by (with_reducible repeat (first | apply r1_ | apply r2_ | apply r3_)); exact HO_13.out) hb); have n2_ := a0_ (Kd.R_below (by (with_reducible repeat (first | apply r1_ | apply r2_ | apply r3_)); exact HO_43.out) hb); have n3_ := a0_ (Kd.R_elder' (by (with_reducible repeat (first | apply r1_ | apply r2_ | apply r3_)); exact HO144.out) (Kd.R_base ho0) hb); have n4_ := a0_ (Kd.R_lower (Kd.R_new' ho0 (Kd.R_lt (by (with_reducible repeat (first | apply r1_ | apply r2_ | apply r3_)); exact HO144.out))) (below_size (by repeat (first | (with_reducible first | exact HB.out | apply b1_ | apply b2_ | apply b3_) | exact HB.out)))); have n5_ := a0_ (below_step (by repeat (first | (with_reducible first | exact HB.out | apply b1_ | apply b2_ | apply b3_) | exact HB.out)) hb); clear HO_11; clear HO_13; clear HO_43; clear HO144; clear HB; have HO_11 := n0_; have HO_13 := n1_; have HO_43 := n2_; have HO144 := n3_; have HO147 := n4_; have HB := n5_; clear n0_ n1_ n2_ n3_ n4_ n5_; (try clear hb); (try clear hb2); (try clear hk); (try clear hi); (try clear ho0); obtain ⟨Ao40, co40, eo40⟩ := Kd.R_slice HO144.out; subst eo40; obtain ⟨Ao41, co41, eo41⟩ := Kd.R_slice HO147.out; subst eo41) | ((with_reducible refine gate_callee (f := 8) rfl ?_); refine goesL_ (some 65) rfl rfl Tryd.func8 (by kernel_rfl) rfl #[.slice Ao40 t142.length co40, .slice Ao41 t145.length co41] rfl (by (try simp only [List.map_toArray, List.map_cons, List.map_nil]); first | done | rfl | (simp only [List.length_drop, List.length_take]; rfl)) ?_; (with_reducible refine (laws_same.calls _ _ t142 _ _ t145 false _ ?side1 ?side2 ?side3 ?side4 A24.out).mono ?_); (case side1 => repeat (first | exact (Kd.R_reads' HO144.out).2.2 | (with_reducible refine Kd.C_alloc ?_ _) | (with_reducible refine Kd.C_drewN ?_ _) | (with_reducible refine Kd.C_drew ?_))); (case side2 => exact (Kd.R_reads' HO144.out).2.1); (case side3 => repeat (first | exact (Kd.R_reads' HO147.out).2.2 | (with_reducible refine Kd.C_alloc ?_ _) | (with_reducible refine Kd.C_drewN ?_ _) | (with_reducible refine Kd.C_drew ?_))); (case side4 => exact (Kd.R_reads' HO147.out).2.1); rintro e w' ⟨rfl, ⟨nd, rfl⟩⟩; refine ⟨_, rfl, ?_⟩))
           go_ret
           exact ⟨by first | rfl | (simp [e1_, e2_] <;> rfl) | (simp [*, e1_, e2_] <;> rfl), by repeat (first | (with_reducible first | exact HB.out | apply b1_ | apply b2_ | apply b3_) | exact HB.out)⟩

/-- THE ONE PURE STATEMENT of laws_FnCopyBits: yours. -/
def laws_FnCopyBits.Pure : Prop := ∀ (l0 : List Int) (a1 : Int) (a2 : Int) (l3 : List Int) (a4 : Int), l0.length ≤ maxLen → l0.length * 1 ≤ 140737488351232 → (∀ x ∈ l0, (Lit.int .u8 x).wf = true) → (Lit.int .i64 a1).wf = true → (Lit.int .i64 a2).wf = true → l3.length ≤ maxLen → l3.length * 1 ≤ 140737488351232 → (∀ x ∈ l3, (Lit.int .u8 x).wf = true) → (Lit.int .i64 a4).wf = true → ∃ k, laws_FnCopyBits.f k l0 a1 a2 l3 a4 = some true
theorem laws_FnCopyBits.walk (P : laws_FnCopyBits.Pure) (a0 : Option Addr) (len0 cap0 : Nat) (z0 : List Int) (a1 : Int) (a2 : Int) (a3 : Option Addr) (len3 cap3 : Nat) (z3 : List Int) (a4 : Int) (w : World) (hT : TabAt w) (w0 : (a0 = none ∧ len0 = 0 ∧ cap0 = 0 ∧ z0 = []) ∨ ∃ x, a0 = some x ∧ len0 ≤ cap0 ∧ cap0 ≤ maxLen ∧ z0.length = cap0 ∧ (∀ i, i < z0.length → w.cell? (x.add i) = some (.int .u8 (z0.getD i 0))) ∧ ∀ n ∈ z0, (Lit.int .u8 n).wf = true) (y0 : len0 * 1 ≤ 140737488351232) (w1 : (Lit.int .i64 a1).wf = true) (w2 : (Lit.int .i64 a2).wf = true) (w3 : (a3 = none ∧ len3 = 0 ∧ cap3 = 0 ∧ z3 = []) ∨ ∃ x, a3 = some x ∧ len3 ≤ cap3 ∧ cap3 ≤ maxLen ∧ z3.length = cap3 ∧ (∀ i, i < z3.length → w.cell? (x.add i) = some (.int .u8 (z3.getD i 0))) ∧ ∀ n ∈ z3, (Lit.int .u8 n).wf = true) (y3 : len3 * 1 ≤ 140737488351232) (w4 : (Lit.int .i64 a4).wf = true) :
  Calls Tryd.prog 5 #[.slice a0 len0 cap0, .int .i64 a1, .int .i64 a2, .slice a3 len3 cap3, .int .i64 a4] w fun e w' => e = .returned (.bool true) ∧ Below w.heap.size w w' := by
 obtain ⟨l0, rfl, hr0, hm0, hw0, hc0⟩ := ReadsInt.ofRowC w0
 obtain ⟨l3, rfl, hr3, hm3, hw3, hc3⟩ := ReadsInt.ofRowC w3
 obtain ⟨k, h⟩ := P l0 a1 a2 l3 a4 hm0 y0 hw0 w1 w2 hm3 y3 hw3 w4
 refine (laws_FnCopyBits.calls k _ _ l0 a1 a2 _ _ l3 a4 true w hT (Kd.C_of_reads (d := (0 : Int)) (h1 := fun _ => rfl) hr0) hc0 (Kd.C_of_reads (d := (0 : Int)) (h1 := fun _ => rfl) hr3) hc3 h).mono ?_
 rintro e w' ⟨rfl, hd⟩
 exact ⟨rfl, hd⟩


end Go.Proofs.YthgbfmcicpmepaaDoor.V
