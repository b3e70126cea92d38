import Derived.Test.YthgbfmcicpmepaaDoorV0
namespace Go.Proofs.YthgbfmcicpmepaaDoor.V
open Go.RowKit Go.Proofs.YthgbfmcicpmepaaDoorW.PrintWords Go.Proofs.YthgbfmcicpmepaaDoorW.PrintLast Go.Proofs.YthgbfmcicpmepaaDoorW.PrintMore
attribute [local go_sem] max2_int min2_int max_two min_two max_three min_three max_four min_four
set_option linter.unusedVariables false
set_option linter.unusedSimpArgs false

/-! ### spec_Bit: function 21 -/
def spec_Bit.f (l0 : List Int) (a1 : Int) : Option (Bool) := if 0 ≤ (wrap64 (Int.tdiv a1 8)) then (if (wrap64 (Int.tdiv a1 8)) < (l0.length : Int) then (if 0 ≤ (Int.tmod a1 8) then (some ((Go.bits .and .u8 (shr .u8 (rd l0 (wrap64 (Int.tdiv a1 8))) (Int.tmod a1 8)) 1) == 1)) else (none)) else (none)) else (none)
set_option maxHeartbeats 8000000 in
set_option maxRecDepth 100000 in
theorem spec_Bit.calls (A0 : Option Addr) (c0 : Nat) (l0 : List Int) (a1 : Int) (r : Bool) (w : World) (hr0 : Kd.C (Kd.int .u8) w A0 l0.length l0) (hc0 : l0.length ≤ c0) (h : spec_Bit.f l0 a1 = some r) :
  Calls Tryd.prog 21 #[.slice A0 l0.length c0, .int .i64 a1] w fun e w' => e = .returned (.bool r) ∧ Drawn0 w w' := by
 have HR0 := a0_ hr0
 have HC0 := a0_ hc0
 clear hr0 hc0
 have H : (if 0 ≤ (wrap64 (Int.tdiv a1 8)) then (if (wrap64 (Int.tdiv a1 8)) < (l0.length : Int) then (if 0 ≤ (Int.tmod a1 8) then (some ((Go.bits .and .u8 (shr .u8 (rd l0 (wrap64 (Int.tdiv a1 8))) (Int.tmod a1 8)) 1) == 1)) else (none)) else (none)) else (none)) = some r := h
 clear h
 obtain ⟨ji3, hji3⟩ : ∃ j_ : Int, (wrap64 (Int.tdiv a1 8)) = j_ := ⟨_, rfl⟩
 replace H : (if 0 ≤ (ji3) then (if (ji3) < (l0.length : Int) then (if 0 ≤ (Int.tmod a1 8) then (some ((Go.bits .and .u8 (shr .u8 (rd l0 (ji3)) (Int.tmod a1 8)) 1) == 1)) else (none)) else (none)) else (none)) = some r := by first | (rw [hji3] at H; exact H) | (simp only [hji3] at H ⊢; exact H)
 have hji3w : (IntKind.i64.wrap (Int.tdiv a1 8)) = ji3 := (i64_w _).trans hji3
 by_cases c4 : 0 ≤ (ji3)
 ·
  rw [if_pos c4] at H
  have c4b0 : decide (0 ≤ (ji3)) = true := d2_ c4
  clear c4
  by_cases c5 : (ji3) < (l0.length : Int)
  ·
   rw [if_pos c5] at H
   have c5b0 : decide ((ji3) < (l0.length : Int)) = true := d2_ c5
   clear c5
   obtain ⟨ji6, hji6⟩ : ∃ j_ : Int, (Int.tmod a1 8) = j_ := ⟨_, rfl⟩
   replace H : (if 0 ≤ (ji6) then (some ((Go.bits .and .u8 (shr .u8 (rd l0 (ji3)) (ji6)) 1) == 1)) else (none)) = some r := by first | (rw [hji6] at H; exact H) | (simp only [hji6] at H ⊢; exact H)
   by_cases c7 : 0 ≤ (ji6)
   ·
    rw [if_pos c7] at H
    have c7b0 := eq_true c7
    have c7b1 : decide (0 ≤ (ji6)) = true := d2_ c7
    clear c7
    obtain ⟨ji8, hji8⟩ : ∃ j_ : Int, (shr .u8 (rd l0 (ji3)) (ji6)) = j_ := ⟨_, rfl⟩
    replace H : (some ((Go.bits .and .u8 (ji8) 1) == 1)) = some r := by first | (rw [hji8] at H; exact H) | (simp only [hji8] at H ⊢; exact H)
    have hji8_ : ((rd l0 (ji3)) / 2 ^ min (ji6).toNat 8) = ji8 := hji8
    have hji8z : (ji6) ≤ 8 → ((rd l0 (ji3)) / 2 ^ (ji6).toNat) = ji8 := shr_small hji8
    obtain rfl := o1_ H
    have p101 : 0 ≤ ((ji3) : Int) := d1_ (by first | (with_reducible assumption) | assumption)
    have q101 : (ji3) < (l0.length : Int) := d1_ (by first | (with_reducible assumption) | assumption)
    obtain ⟨ad101, e101, hx101_0⟩ := Kd.at_int HR0.out (ji3) p101 q101
    cases e101
    replace p101 := eq_true p101
    replace q101 := eq_true q101
    go_enter Tryd.func21, Tryd.ntmps21
    go_wp2
    go_ret
    exact ⟨by first | rfl | (simp; done) | (simp only [← hji3, ← hji6, ← hji8] <;> (first | rfl | simp)) | (simp [*]; done), by repeat (first | exact Drawn0.refl _ | apply Drawn0.step)⟩
   ·
    rw [if_neg c7] at H
    exact absurd H (by simp)
  ·
   rw [if_neg c5] at H
   exact absurd H (by simp)
 ·
  rw [if_neg c4] at H
  exact absurd H (by simp)

/-! ### spec_BitList: function 11 -/
mutual
def spec_BitList.j0 : Nat → List Int → Int → Int → Bool → Option (List Bool × Bool)
 | 0, _, _, _, _ => none
 | k + 1, x0, x1, x2, x24 => if x24 = true then (some (([] : List Bool), false)) else (if 0 ≤ x2 then (if (x2 : Int).toNat ≤ 281474976710656 then ((some (List.replicate (x2 : Int).toNat false : List Bool)).bind fun y102 => (spec_BitList.l0 k x0 x1 y102 (y102.length : Int) 0)) else (none)) else (none))
def spec_BitList.l0 : Nat → List Int → Int → List Bool → Int → Int → Option (List Bool × Bool)
 | 0, _, _, _, _, _ => none
 | k + 1, x0, x1, x8, x28, x29 => if x29 < x28 then ((spec_Bit.f x0 (wrap64 (x1 + x29))).bind fun t105 => (if 0 ≤ x29 then (if x29 < (x8.length : Int) then (spec_BitList.l0 k x0 x1 (x8.set (x29 : Int).toNat t105) x28 (wrap64 (x29 + 1))) else (none)) else (none))) else (some (x8, true))
end
def spec_BitList.f (k : Nat) (l0 : List Int) (a1 : Int) (a2 : Int) : Option (List Bool × Bool) := if a1 < 0 then (spec_BitList.j0 k l0 a1 a2 true) else (if a2 < 0 then (spec_BitList.j0 k l0 a1 a2 true) else (spec_BitList.j0 k l0 a1 a2 (decide (a1 > (wrap64 ((wrap64 (8 * (l0.length : Int))) - a2))))))
set_option maxHeartbeats 8000000 in
set_option maxRecDepth 100000 in
theorem spec_BitList.calls (k : Nat) (A0 : Option Addr) (c0 : Nat) (l0 : List Int) (a1 : Int) (a2 : Int) (r1 : List Bool) (r2 : Bool) (w : World) (hr0 : Kd.C (Kd.int .u8) w A0 l0.length l0) (hc0 : l0.length ≤ c0) (h : spec_BitList.f k l0 a1 a2 = some (r1, r2)) :
  Calls Tryd.prog 11 #[.slice A0 l0.length c0, .int .i64 a1, .int .i64 a2] w fun e w' => ∃ v0_ : Value, e = .returned (.tuple #[v0_, .bool r2]) ∧ Kd.R Kd.bool 4 w' w.heap.size (fun _ => True) v0_ r1 ∧ Below w.heap.size w w' := by
 have HR0 := a0_ hr0
 have HC0 := a0_ hc0
 clear hr0 hc0
 have HB := a0_ (Below.refl w.heap.size w)
 have H : (if a1 < 0 then (spec_BitList.j0 k l0 a1 a2 true) else (if a2 < 0 then (spec_BitList.j0 k l0 a1 a2 true) else (spec_BitList.j0 k l0 a1 a2 (decide (a1 > (wrap64 ((wrap64 (8 * (l0.length : Int))) - a2))))))) = some (r1, r2) := h
 clear h
 have HC4 := a0_ H
 clear H
 go_enter Tryd.func11, Tryd.ntmps11
 go_upto_region 1 with (fail)
 go_cut [24] (fun v24 wc => ∃ (kq : Nat) (x24_3 : Bool), v24 = .bool x24_3 ∧ Aside0 (spec_BitList.j0 kq l0 a1 a2 x24_3 = some (r1, r2)) ∧ Aside0 (kq ≤ k) ∧ Aside0 (Below w.heap.size w wc))
 case first =>
  have H := HC4.out
  clear HC4
  by_cases c5 : a1 < 0
  ·
   rw [if_pos c5] at H
   have c5b0 : decide (a1 < 0) = true := d2_ c5
   clear c5
   (first | rw [c5b0] | (simp only [i64_w, i32_w]; rw [c5b0]) | skip)
   have H' := a0_ H
   clear H
   go_wp2
   go_meet
   case rel => exact ⟨_, (true), (by first | rfl | (simp; done) | (simp [*]; done)), H', ⟨by first | omega | exact Nat.le_refl _⟩, ⟨by repeat (first | (with_reducible first | exact HB.out | apply b1_ | apply b2_ | apply b3_) | exact HB.out)⟩⟩
  ·
   rw [if_neg c5] at H
   have c5b0 : decide (a1 < 0) = false := d3_ c5
   clear c5
   (first | rw [c5b0] | (simp only [i64_w, i32_w]; rw [c5b0]) | skip)
   by_cases c6 : a2 < 0
   ·
    rw [if_pos c6] at H
    have c6b0 : decide (a2 < 0) = true := d2_ c6
    clear c6
    have H' := a0_ H
    clear H
    go_wp2
    go_meet
    case rel => exact ⟨_, (true), (by first | rfl | (simp; done) | (simp [*]; done)), H', ⟨by first | omega | exact Nat.le_refl _⟩, ⟨by repeat (first | (with_reducible first | exact HB.out | apply b1_ | apply b2_ | apply b3_) | exact HB.out)⟩⟩
   ·
    rw [if_neg c6] at H
    have c6b0 : decide (a2 < 0) = false := d3_ c6
    clear c6
    have H' := a0_ H
    clear H
    go_wp2
    go_meet
    case rel => exact ⟨_, (decide (a1 > (wrap64 ((wrap64 (8 * (l0.length : Int))) - a2)))), (by first | rfl | (simp; done) | (simp [*]; done)), H', ⟨by first | omega | exact Nat.le_refl _⟩, ⟨by repeat (first | (with_reducible first | exact HB.out | apply b1_ | apply b2_ | apply b3_) | exact HB.out)⟩⟩
 case rest =>
  clear HC4
  try clear c1
  try clear p2
  try clear c5
  try clear c5b0
  try clear c6
  try clear c6b0
  try clear p6
  obtain ⟨kq, x24_3, rfl, HA, HJ3, HB⟩ := hcut
  cases kq with
  | zero => exact absurd HA.out (by simp [spec_BitList.j0])
  | succ kj3 =>
   have H := HA.out
   clear HA
   simp only [spec_BitList.j0] at H
   by_cases c7 : x24_3 = true
   ·
    subst c7
    have H1 : (some (([] : List Bool), false)) = some (r1, r2) := by rw [if_pos rfl] at H; exact H
    clear H
    have H := H1
    clear H1
    simp only [Option.some.injEq, Prod.mk.injEq] at H
    obtain ⟨rfl, rfl⟩ := H
    go_wp2
    go_ret2
    exact ⟨_, by first | rfl | (simp [e1_, e2_] <;> rfl) | (simp [*, e1_, e2_] <;> rfl), by first | exact Kd.R_nil _ _ _ _ _ | exact Kd.N_nil _ _ _ _ _ | exact Kd.V_nil _ _ _ _ _ | exact Kd.Q_nil _ _ _ _ _ | exact Kd.S_nil _ _ _ _ _, by repeat (first | (with_reducible first | exact HB.out | apply b1_ | apply b2_ | apply b3_) | exact HB.out)⟩
   ·
    replace c7 := Bool.eq_false_iff.mpr c7
    subst c7
    have H1 : (if 0 ≤ a2 then (if (a2 : Int).toNat ≤ 281474976710656 then ((some (List.replicate (a2 : Int).toNat false : List Bool)).bind fun y102 => (spec_BitList.l0 kj3 l0 a1 y102 (y102.length : Int) 0)) else (none)) else (none)) = some (r1, r2) := by rw [if_neg (show ¬ (false = true) by decide)] at H; exact H
    clear H
    have H := H1
    clear H1
    by_cases c8 : 0 ≤ a2
    ·
     rw [if_pos c8] at H
     have c8b0 := eq_true c8
     have c8b1 : decide (0 ≤ a2) = true := d2_ c8
     clear c8
     by_cases c9 : (a2 : Int).toNat ≤ 281474976710656
     ·
      rw [if_pos c9] at H
      have c9b0 := eq_true c9
      have c9b1 : decide ((a2 : Int).toNat ≤ 281474976710656) = true := d2_ c9
      clear c9
      obtain ⟨y102, hy102⟩ : ∃ y_ : List Bool, y_ = (List.replicate (a2 : Int).toNat false) := ⟨_, rfl⟩
      replace H : (spec_BitList.l0 kj3 l0 a1 y102 (y102.length : Int) 0) = some (r1, r2) := by first | (rw [hy102]; with_reducible exact H) | (have H2_ := (o2_ _ _).symm.trans H; rw [hy102]; with_reducible exact H2_) | (have H2_ := (o2_ _ _).symm.trans H; with_reducible exact H2_) | with_reducible exact H | (rw [hy102]; exact H) | exact H
      have Ny102 := a0_ hy102
      clear hy102
      have H' := a0_ H
      clear H
      go_wp2_with (first | ((with_reducible refine gate_dst (N := 26) rfl ?_); (try (refine gate_guard (by rfl) ?_; dsimp only)); refine Kd.R_make Kd.bool _ 4 rfl (N := 26) rfl 23 _ _ rfl a2 rfl rfl Tryd.underlying23 (.bool false) 1 info4 rfl (by decide) (by omega) false (ok := fun _ => True) (okp := fun _ => True) rfl (fun _ hk => hk) trivial (d1_ (by first | (with_reducible assumption) | assumption)) (Nat.le_trans (Nat.mul_le_mul_right _ (d1_ (by first | (with_reducible assumption) | assumption) : a2.toNat ≤ 281474976710656)) (by omega)) (Below.refl _ _) (Nat.le_refl _) ?_; intro v103 w10 ho11 hb hg_ hnew_; clear hg_ hnew_; (first | rw [← Ny102.out] at ho11 | (simp only [Int.reduceToNat] at ho11; rw [← Ny102.out] at ho11)); have n0_ := a0_ (Kd.R_lower ho11 (below_size (by repeat (first | (with_reducible first | exact HB.out | apply b1_ | apply b2_ | apply b3_) | exact HB.out)))); have n1_ := a0_ (below_step (by repeat (first | (with_reducible first | exact HB.out | apply b1_ | apply b2_ | apply b3_) | exact HB.out)) hb); clear HB; have HO104 := n0_; have HB := n1_; clear n0_ n1_; clear hb ho11; obtain ⟨Ao12, co12, eo12⟩ := Kd.R_slice HO104.out; subst eo12))
      go_loopg [29] kj3 (fun kq v29 w' => ∃ (x8_2 : List Bool) (x29_2 : Int), v29 = .int .i64 x29_2 ∧ Aside0 (spec_BitList.l0 kq l0 a1 x8_2 (y102.length : Int) x29_2 = some (r1, r2)) ∧ Aside0 (kq ≤ kj3) ∧ Aside0 (Kd.R Kd.bool 4 w' w.heap.size (fun _ => True) (.slice Ao12 y102.length co12) x8_2) ∧ Aside0 (Below w.heap.size w w'))
      case atStart => exact ⟨(y102), (0), (by first | rfl | (simp; done) | (simp [*]; done)), H', ⟨Nat.le_refl _⟩, ⟨by (with_reducible repeat (first | apply r1_ | apply r2_ | apply r3_)); exact HO104.out⟩, ⟨by repeat (first | (with_reducible first | exact HB.out | apply b1_ | apply b2_ | apply b3_) | exact HB.out)⟩⟩
      case round =>
       clear H'
       try clear c1
       try clear p2
       try clear c5
       try clear c5b0
       try clear c6
       try clear c6b0
       try clear p6
       try clear c7
       try clear c8
       try clear c8b0
       try clear c8b1
       try clear c9
       try clear c9b0
       try clear c9b1
       try clear c11
       try clear p2
       try clear p6
       obtain ⟨x8_2, x29_2, rfl, HA, HK2, HO_8, HB⟩ := hrel
       have hl8_2 := (Kd.R_reads' HO_8.out).1
       rw [hl8_2] at HO_8
       (try simp only [hl8_2])
       cases gk with
       | zero => exact absurd HA.out (by simp [spec_BitList.l0])
       | succ k2 =>
        have H := HA.out
        clear HA
        simp only [spec_BitList.l0] at H
        by_cases c13 : x29_2 < (y102.length : Int)
        ·
         rw [if_pos c13] at H
         have c13b0 : decide (x29_2 < (y102.length : Int)) = true := d2_ c13
         have c13bz : decide (x29_2 < (x8_2.length : Int)) = true := hl8_2 ▸ c13b0
         clear c13
         replace H := Option.bind_eq_some_iff.mp H
         obtain ⟨t105, A140, H⟩ := H
         replace H : (if 0 ≤ x29_2 then (if x29_2 < (x8_2.length : Int) then (spec_BitList.l0 k2 l0 a1 (x8_2.set (x29_2 : Int).toNat t105) (y102.length : Int) (wrap64 (x29_2 + 1))) else (none)) else (none)) = some (r1, r2) := H
         have A14 := a0_ A140
         clear A140
         by_cases c15 : 0 ≤ x29_2
         ·
          rw [if_pos c15] at H
          have c15b0 : decide (0 ≤ x29_2) = true := d2_ c15
          clear c15
          by_cases c16 : x29_2 < (x8_2.length : Int)
          ·
           rw [if_pos c16] at H
           have c16b0 : decide (x29_2 < (x8_2.length : Int)) = true := d2_ c16
           clear c16
           obtain ⟨y106, hy106⟩ : ∃ y_ : List Bool, y_ = (x8_2.set (x29_2 : Int).toNat t105) := ⟨_, rfl⟩
           replace H : (spec_BitList.l0 k2 l0 a1 y106 (y102.length : Int) (wrap64 (x29_2 + 1))) = some (r1, r2) := by first | (rw [hy106]; with_reducible exact H) | (have H2_ := (o2_ _ _).symm.trans H; rw [hy106]; with_reducible exact H2_) | (have H2_ := (o2_ _ _).symm.trans H; with_reducible exact H2_) | with_reducible exact H | (rw [hy106]; exact H) | exact H
           have Ny106 := a0_ hy106
           clear hy106
           have H' := a0_ H
           clear H
           go_wp2_with (first | ((with_reducible refine gate_callee (f := 21) rfl ?_); refine goesL_ (some 38) rfl rfl Tryd.func21 (by kernel_rfl) rfl #[.slice A0 l0.length c0, .int .i64 (wrap64 (a1 + x29_2))] rfl (by (try simp only [List.map_toArray, List.map_cons, List.map_nil]); first | done | rfl | (simp only [List.length_drop, List.length_take]; rfl)) ?_; (with_reducible refine (spec_Bit.calls _ _ l0 (wrap64 (a1 + x29_2)) t105 _ ?side1 ?side2 A14.out).mono ?_); (case side1 => repeat (first | exact (Kd.C_below HR0.out HB.out) | (with_reducible refine Kd.C_alloc ?_ _) | (with_reducible refine Kd.C_drewN ?_ _) | (with_reducible refine Kd.C_drew ?_))); (case side2 => exact HC0.out); rintro e w' ⟨rfl, ⟨nd, rfl⟩⟩; refine ⟨_, rfl, ?_⟩; (try (rw [drewN_self wr]; generalize hq_ : World.drewN wr _ = wr; have n0_ : Aside0 (Kd.R Kd.bool 4 wr w.heap.size (fun _ => True) (.slice Ao12 x8_2.length co12) x8_2) := ⟨by rw [← hq_]; exact (by (with_reducible repeat (first | apply r1_ | apply r2_ | apply r3_)); exact HO_8.out)⟩; have n1_ : Aside0 (Below w.heap.size w wr) := ⟨by rw [← hq_]; exact (by repeat (first | (with_reducible first | exact HB.out | apply b1_ | apply b2_ | apply b3_) | exact HB.out))⟩; clear HO_8 HB hq_; have HO_8 := n0_; have HB := n1_; clear n0_ n1_)); have p17 : 0 ≤ (x29_2 : Int) := d1_ (by first | (with_reducible assumption) | assumption); have q17 : (x29_2 : Int) < ((x8_2.length : Int) : Int) := d1_ (by first | (with_reducible assumption) | assumption); obtain ⟨go17, co17, eo17, gb17, gl17, cl17, HG17⟩ := Kd.R_form HO_8.out (by omega); (first | cases eo17 | (injection eo17 with ea_ en_ ec_; (first | subst ea_ | (injection ea_ with ea_; subst ea_)); subst ec_; clear en_)); have GB17 := a0_ gb17; have GG17 := a0_ HG17; clear gb17 gl17 HG17; obtain ⟨hx17_0, hf17_0⟩ := Kd.R_celln false HO_8.out (x29_2 : Int) p17 q17; replace p17 := eq_true p17; replace q17 := eq_true q17; obtain ⟨hy18_, hz18_⟩ := Kd.R_celln false HO_8.out (x29_2 : Int) (d1_ (by first | (with_reducible assumption) | assumption)) (d1_ (by first | (with_reducible assumption) | assumption)); have HP18 := Kd.R_putg HO_8.out (x29_2 : Int) t105) | ((with_reducible refine gate_store (t := 4) (p := 39) rfl ?_); refine store_event (t := 4) (p := 39) (v := ?vo_w19) (w1 := (wr.setCell ⟨go17, (x29_2 : Int).toNat, none⟩ (.bool t105))) ?hg ?ho ?hn ?hr ?_; (case ho => rfl); (case hg => rfl); (case hn => rfl); (case hr => first | (go_simp; done) | (go_simp; rfl)); intro w19 hw; have hg : wr.grownBy w19 (some go17) := (by rw [hw]; exact HP18.2); have hp_ : Kd.R Kd.bool 4 w19 w.heap.size (fun _ => True) (.slice (some ⟨go17, 0, none⟩) x8_2.length co12) y106 := (by rw [hw, Ny106.out]; exact HP18.1); clear HP18; have n0_ := a0_ (hp_); have n1_ := a0_ ((by rw [hw]; exact b4_ (HB.out) GB17.out : Below w.heap.size w w19)); clear HO_8; clear HB; have HO_8 := n0_; have HB := n1_; clear n0_ n1_; clear hg hw hp_))
           (try simp only [← hl8_2])
           go_roundg k2
           case measure => have := HJ3.out; have := HK2.out; omega
           case rel => exact ⟨(y106), (wrap64 (x29_2 + 1)), (by first | rfl | (simp; done) | (simp [*]; done)), H', ⟨by have := HJ3.out; have := HK2.out; omega⟩, ⟨by (try simp only [hl8_2]); (with_reducible repeat (first | apply r1_ | apply r2_ | apply r3_)); exact HO_8.out⟩, ⟨by repeat (first | (with_reducible first | exact HB.out | apply b1_ | apply b2_ | apply b3_) | exact HB.out)⟩⟩
          ·
           rw [if_neg c16] at H
           exact absurd H (by simp)
         ·
          rw [if_neg c15] at H
          exact absurd H (by simp)
        ·
         rw [if_neg c13] at H
         have c13b0 : decide (x29_2 < (y102.length : Int)) = false := d3_ c13
         have c13bz : decide (x29_2 < (x8_2.length : Int)) = false := hl8_2 ▸ c13b0
         clear c13
         simp only [Option.some.injEq, Prod.mk.injEq] at H
         obtain ⟨rfl, rfl⟩ := H
         go_wp2
         go_ret2
         exact ⟨_, by first | rfl | (simp [e1_, e2_] <;> rfl) | (simp [*, e1_, e2_] <;> rfl), by (with_reducible repeat (first | apply r1_ | apply r2_ | apply r3_)); exact HO_8.out, by repeat (first | (with_reducible first | exact HB.out | apply b1_ | apply b2_ | apply b3_) | exact HB.out)⟩
     ·
      rw [if_neg c9] at H
      exact absurd H (by simp)
    ·
     rw [if_neg c8] at H
     exact absurd H (by simp)


/-! ### spec_SameBools: function 13 -/
def spec_SameBools.l0 : Nat → List Bool → List Bool → Int → Int → Option (Bool)
 | 0, _, _, _, _ => none
 | k + 1, x0, x1, x12, x13 => if x13 < x12 then (if 0 ≤ x13 then (if x13 < (x0.length : Int) then (if x13 < (x1.length : Int) then (if ((rdOf false x0 x13) != (rdOf false x1 x13)) = true then (some false) else (spec_SameBools.l0 k x0 x1 x12 (wrap64 (x13 + 1)))) else (none)) else (none)) else (none)) else (some true)
def spec_SameBools.f (k : Nat) (l0 : List Bool) (l1 : List Bool) : Option (Bool) := if (l0.length : Int) = (l1.length : Int) then (spec_SameBools.l0 k l0 l1 (l0.length : Int) 0) else (some false)
set_option maxHeartbeats 8000000 in
set_option maxRecDepth 100000 in
theorem spec_SameBools.calls (k : Nat) (A0 : Option Addr) (c0 : Nat) (l0 : List Bool) (A1 : Option Addr) (c1 : Nat) (l1 : List Bool) (r : Bool) (w : World) (hr0 : Kd.C Kd.bool w A0 l0.length l0) (hc0 : l0.length ≤ c0) (hr1 : Kd.C Kd.bool w A1 l1.length l1) (hc1 : l1.length ≤ c1) (h : spec_SameBools.f k l0 l1 = some r) :
  Calls Tryd.prog 13 #[.slice A0 l0.length c0, .slice A1 l1.length c1] w fun e w' => e = .returned (.bool r) ∧ Drawn0 w w' := by
 have HR0 := a0_ hr0
 have HC0 := a0_ hc0
 clear hr0 hc0
 have HR1 := a0_ hr1
 have HC1 := a0_ hc1
 clear hr1 hc1
 have H : (if (l0.length : Int) = (l1.length : Int) then (spec_SameBools.l0 k l0 l1 (l0.length : Int) 0) else (some false)) = some r := h
 clear h
 by_cases c3 : (l0.length : Int) = (l1.length : Int)
 ·
  rw [if_pos c3] at H
  have c3b0 : ((l0.length : Int) == (l1.length : Int)) = true := beq_iff_eq.mpr c3
  have c3b1 : ((l0.length : Int) != (l1.length : Int)) = false := bne_eq_false_iff_eq.mpr c3
  have c3b2 : (l0.length == l1.length) = true := by first | simpa using c3 | (simp at c3 ⊢; omega)
  clear c3
  have H' := a0_ H
  clear H
  go_enter Tryd.func13, Tryd.ntmps13
  go_wp2
  repeat (go_quiet (fail); try go_wp2)
  go_loopg [13] k (fun kq v13 w' => ∃ (x13_1 : Int), v13 = .int .i64 x13_1 ∧ Aside0 (spec_SameBools.l0 kq l0 l1 (l0.length : Int) x13_1 = some r) ∧ Aside0 (kq ≤ k) ∧ Drawn0 w w')
  case atStart => exact ⟨(0), (by first | rfl | (simp; done) | (simp [*]; done)), H', ⟨Nat.le_refl _⟩, by repeat (first | exact Drawn0.refl _ | apply Drawn0.step)⟩
  case round =>
   clear H'
   try clear c1
   try clear p2
   try clear c3
   try clear c3b0
   try clear c3b1
   try clear c3b2
   obtain ⟨x13_1, rfl, HA, HK1, ⟨m1, rfl⟩⟩ := hrel
   cases gk with
   | zero => exact absurd HA.out (by simp [spec_SameBools.l0])
   | succ k1 =>
    have H := HA.out
    clear HA
    simp only [spec_SameBools.l0] at H
    by_cases c4 : x13_1 < (l0.length : Int)
    ·
     rw [if_pos c4] at H
     have c4b0 : decide (x13_1 < (l0.length : Int)) = true := d2_ c4
     clear c4
     by_cases c5 : 0 ≤ x13_1
     ·
      rw [if_pos c5] at H
      have c5b0 : decide (0 ≤ x13_1) = true := d2_ c5
      clear c5
      by_cases c6 : x13_1 < (l0.length : Int)
      ·
       rw [if_pos c6] at H
       have c6b0 : decide (x13_1 < (l0.length : Int)) = true := d2_ c6
       clear c6
       by_cases c7 : x13_1 < (l1.length : Int)
       ·
        rw [if_pos c7] at H
        have c7b0 : decide (x13_1 < (l1.length : Int)) = true := d2_ c7
        clear c7
        by_cases c8 : ((rdOf false l0 x13_1) != (rdOf false l1 x13_1)) = true
        ·
         rw [if_pos c8] at H
         have c8b0 : ((rdOf false l0 x13_1) != (rdOf false l1 x13_1)) = true := c8
         (try (have c8b1 : decide ((rdOf false l0 x13_1) = (rdOf false l1 x13_1)) = false := by simpa using c8))
         (try (have c8b2 : ((rdOf false l0 x13_1) == (rdOf false l1 x13_1)) = false := by simpa using c8))
         (try (have c8b3 : ¬ ((rdOf false l0 x13_1) = (rdOf false l1 x13_1)) := by simpa using c8))
         clear c8
         obtain rfl := o1_ H
         have p116 : 0 ≤ (x13_1 : Int) := d1_ (by first | (with_reducible assumption) | assumption)
         have q116 : x13_1 < (l0.length : Int) := d1_ (by first | (with_reducible assumption) | assumption)
         obtain ⟨ad116, e116, hx116_0⟩ := Kd.at_bool HR0.out x13_1 p116 q116
         cases e116
         replace p116 := eq_true p116
         replace q116 := eq_true q116
         have p117 : 0 ≤ (x13_1 : Int) := d1_ (by first | (with_reducible assumption) | assumption)
         have q117 : x13_1 < (l1.length : Int) := d1_ (by first | (with_reducible assumption) | assumption)
         obtain ⟨ad117, e117, hx117_0⟩ := Kd.at_bool HR1.out x13_1 p117 q117
         cases e117
         replace p117 := eq_true p117
         replace q117 := eq_true q117
         go_wp2
         repeat (go_quiet (fail); try go_wp2)
         go_ret
         exact ⟨by first | rfl | (simp; done) | (simp [*]; done), by repeat (first | exact Drawn0.refl _ | apply Drawn0.step)⟩
        ·
         rw [if_neg c8] at H
         have c8b0 : ((rdOf false l0 x13_1) != (rdOf false l1 x13_1)) = false := by simpa using c8
         (try (have c8b1 : decide ((rdOf false l0 x13_1) = (rdOf false l1 x13_1)) = true := by simpa using c8))
         (try (have c8b2 : ((rdOf false l0 x13_1) == (rdOf false l1 x13_1)) = true := by simpa using c8))
         clear c8
         have H' := a0_ H
         clear H
         have p116 : 0 ≤ (x13_1 : Int) := d1_ (by first | (with_reducible assumption) | assumption)
         have q116 : x13_1 < (l0.length : Int) := d1_ (by first | (with_reducible assumption) | assumption)
         obtain ⟨ad116, e116, hx116_0⟩ := Kd.at_bool HR0.out x13_1 p116 q116
         cases e116
         replace p116 := eq_true p116
         replace q116 := eq_true q116
         have p117 : 0 ≤ (x13_1 : Int) := d1_ (by first | (with_reducible assumption) | assumption)
         have q117 : x13_1 < (l1.length : Int) := d1_ (by first | (with_reducible assumption) | assumption)
         obtain ⟨ad117, e117, hx117_0⟩ := Kd.at_bool HR1.out x13_1 p117 q117
         cases e117
         replace p117 := eq_true p117
         replace q117 := eq_true q117
         go_wp2
         repeat (go_quiet (fail); try go_wp2)
         go_roundg k1
         case measure => have := HK1.out; omega
         case rel => exact ⟨(wrap64 (x13_1 + 1)), (by first | rfl | (simp; done) | (simp [*]; done)), H', ⟨by have := HK1.out; omega⟩, by repeat (first | exact Drawn0.refl _ | apply Drawn0.step)⟩
       ·
        rw [if_neg c7] at H
        exact absurd H (by simp)
      ·
       rw [if_neg c6] at H
       exact absurd H (by simp)
     ·
      rw [if_neg c5] at H
      exact absurd H (by simp)
    ·
     rw [if_neg c4] at H
     have c4b0 : decide (x13_1 < (l0.length : Int)) = false := d3_ c4
     clear c4
     obtain rfl := o1_ H
     go_wp2
     repeat (go_quiet (fail); try go_wp2)
     go_ret
     exact ⟨by first | rfl | (simp; done) | (simp [*]; done), by repeat (first | exact Drawn0.refl _ | apply Drawn0.step)⟩
 ·
  rw [if_neg c3] at H
  have c3b0 : ((l0.length : Int) == (l1.length : Int)) = false := beq_eq_false_iff_ne.mpr c3
  have c3b1 : ((l0.length : Int) != (l1.length : Int)) = true := bne_iff_ne.mpr c3
  have c3b2 : (l0.length == l1.length) = false := by first | simpa using c3 | (simp at c3 ⊢; omega)
  obtain rfl := o1_ H
  go_enter Tryd.func13, Tryd.ntmps13
  go_wp2
  repeat (go_quiet (fail); try go_wp2)
  go_ret
  exact ⟨by first | rfl | (simp; done) | (simp [*]; done), by repeat (first | exact Drawn0.refl _ | apply Drawn0.step)⟩

/-! ### laws_within: function 6 -/
def laws_within.f (l0 : List Int) (a1 : Int) (a2 : Int) : Option (Bool) := if (l0.length : Int) ≤ 4096 then (if a1 ≥ 0 then (if a2 ≥ 0 then (if a1 ≤ (wrap64 (8 * (l0.length : Int))) then (some (decide (a2 ≤ (wrap64 ((wrap64 (8 * (l0.length : Int))) - a1))))) else (some false)) else (some false)) else (some false)) else (some false)
set_option maxHeartbeats 8000000 in
set_option maxRecDepth 100000 in
theorem laws_within.calls (A0 : Option Addr) (c0 : Nat) (l0 : List Int) (a1 : Int) (a2 : Int) (r : Bool) (w : World) (hr0 : Kd.C (Kd.int .u8) w A0 l0.length l0) (hc0 : l0.length ≤ c0) (h : laws_within.f l0 a1 a2 = some r) :
  Calls Tryd.prog 6 #[.slice A0 l0.length c0, .int .i64 a1, .int .i64 a2] w fun e w' => e = .returned (.bool r) ∧ Drawn0 w w' := by
 have HR0 := a0_ hr0
 have HC0 := a0_ hc0
 clear hr0 hc0
 have H : (if (l0.length : Int) ≤ 4096 then (if a1 ≥ 0 then (if a2 ≥ 0 then (if a1 ≤ (wrap64 (8 * (l0.length : Int))) then (some (decide (a2 ≤ (wrap64 ((wrap64 (8 * (l0.length : Int))) - a1))))) else (some false)) else (some false)) else (some false)) else (some false)) = some r := h
 clear h
 by_cases c4 : (l0.length : Int) ≤ 4096
 ·
  rw [if_pos c4] at H
  have c4b0 : decide ((l0.length : Int) ≤ 4096) = true := d2_ c4
  have c4b1 : decide (l0.length ≤ 4096) = true := d2_ (by omega)
  clear c4
  by_cases c5 : a1 ≥ 0
  ·
   rw [if_pos c5] at H
   have c5b0 : decide (0 ≤ a1) = true := d2_ c5
   clear c5
   by_cases c6 : a2 ≥ 0
   ·
    rw [if_pos c6] at H
    have c6b0 : decide (0 ≤ a2) = true := d2_ c6
    clear c6
    by_cases c7 : a1 ≤ (wrap64 (8 * (l0.length : Int)))
    ·
     rw [if_pos c7] at H
     have c7b0 : decide (a1 ≤ (wrap64 (8 * (l0.length : Int)))) = true := d2_ c7
     clear c7
     obtain rfl := o1_ H
     go_enter Tryd.func6, Tryd.ntmps6
     go_wp2
     go_ret
     exact ⟨by first | rfl | (simp; done) | (simp [*]; done), by repeat (first | exact Drawn0.refl _ | apply Drawn0.step)⟩
    ·
     rw [if_neg c7] at H
     have c7b0 : decide (a1 ≤ (wrap64 (8 * (l0.length : Int)))) = false := d3_ c7
     clear c7
     obtain rfl := o1_ H
     go_enter Tryd.func6, Tryd.ntmps6
     go_wp2
     go_ret
     exact ⟨by first | rfl | (simp; done) | (simp [*]; done), by repeat (first | exact Drawn0.refl _ | apply Drawn0.step)⟩
   ·
    rw [if_neg c6] at H
    have c6b0 : decide (0 ≤ a2) = false := d3_ c6
    clear c6
    obtain rfl := o1_ H
    go_enter Tryd.func6, Tryd.ntmps6
    go_wp2
    go_ret
    exact ⟨by first | rfl | (simp; done) | (simp [*]; done), by repeat (first | exact Drawn0.refl _ | apply Drawn0.step)⟩
  ·
   rw [if_neg c5] at H
   have c5b0 : decide (0 ≤ a1) = false := d3_ c5
   clear c5
   obtain rfl := o1_ H
   go_enter Tryd.func6, Tryd.ntmps6
   go_wp2
   go_ret
   exact ⟨by first | rfl | (simp; done) | (simp [*]; done), by repeat (first | exact Drawn0.refl _ | apply Drawn0.step)⟩
 ·
  rw [if_neg c4] at H
  have c4b0 : decide ((l0.length : Int) ≤ 4096) = false := d3_ c4
  have c4b1 : decide (l0.length ≤ 4096) = false := d3_ (by omega)
  clear c4
  obtain rfl := o1_ H
  go_enter Tryd.func6, Tryd.ntmps6
  go_wp2
  go_ret
  exact ⟨by first | rfl | (simp; done) | (simp [*]; done), by repeat (first | exact Drawn0.refl _ | apply Drawn0.step)⟩


end Go.Proofs.YthgbfmcicpmepaaDoor.V
