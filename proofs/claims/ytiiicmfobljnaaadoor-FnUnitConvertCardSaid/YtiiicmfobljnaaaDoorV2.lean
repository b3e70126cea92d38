import Derived.Test.YtiiicmfobljnaaaDoorV1
namespace Go.Proofs.YtiiicmfobljnaaaDoor.V
open Go.RowKit Go.Proofs.YtiiicmfobljnaaaDoorW.PrintWords Go.Proofs.YtiiicmfobljnaaaDoorW.PrintLast Go.Proofs.YtiiicmfobljnaaaDoorW.PrintMore
attribute [local go_sem] max2_int min2_int max_two min_two max_three min_three max_four min_four
set_option linter.unusedVariables false
set_option linter.unusedSimpArgs false

/-! ### spec_magDiv: function 14 -/
mutual
def spec_magDiv.l0 : Nat → List Int → List Int → List Int → List Int → Int → Option (List Int × List Int)
 | 0, _, _, _, _, _ => none
 | k + 1, x0, x1, x4, x5, x6 => if x6 ≥ 0 then ((spec_magAdd.f k x5 x5).bind fun t201 => (if 0 ≤ (wrap64 (Int.tdiv x6 32)) then (if (wrap64 (Int.tdiv x6 32)) < (x0.length : Int) then (if 0 ≤ (Int.tmod x6 32) then (if (Go.bits .and .u32 (shr .u32 (rd x0 (wrap64 (Int.tdiv x6 32))) (Int.tmod x6 32)) 1) = 1 then ((spec_magAdd.f k t201 (([1] : List Int))).bind fun t208 => (spec_magDiv.j1 k x0 x1 x4 t208 x6)) else (spec_magDiv.j1 k x0 x1 x4 t201 x6)) else (none)) else (none)) else (none))) else ((spec_trim.f k x4).bind fun t198 => (some (t198, x5)))
def spec_magDiv.j1 : Nat → List Int → List Int → List Int → List Int → Int → Option (List Int × List Int)
 | 0, _, _, _, _, _ => none
 | k + 1, x0, x1, x4, x5, x6 => (spec_trim.f k x5).bind fun t211 => ((spec_magCmp.f k t211 x1).bind fun t214 => (if t214 ≥ 0 then ((spec_magSub.f k t211 x1).bind fun t215 => (if 0 ≤ (wrap64 (Int.tdiv x6 32)) then (if (wrap64 (Int.tdiv x6 32)) < (x4.length : Int) then (if 0 ≤ (Int.tmod x6 32) then (spec_magDiv.l0 k x0 x1 (x4.set ((wrap64 (Int.tdiv x6 32)) : Int).toNat (Go.bits .or .u32 (rd x4 (wrap64 (Int.tdiv x6 32))) (shl .u32 1 (Int.tmod x6 32)))) t215 (wrap64 (x6 - 1))) else (none)) else (none)) else (none))) else (spec_magDiv.l0 k x0 x1 x4 t211 (wrap64 (x6 - 1)))))
end
def spec_magDiv.f (k : Nat) (l0 : List Int) (l1 : List Int) : Option (List Int × List Int) := if 0 ≤ (l0.length : Int) then (if ((l0.length : Int) : Int).toNat ≤ 70368744177664 then (spec_magDiv.l0 k l0 l1 (List.replicate ((l0.length : Int) : Int).toNat 0) ([] : List Int) (wrap64 ((wrap64 (32 * (l0.length : Int))) - 1))) else (none)) else (none)
def spec_magDiv.T11 : Bool × List (List Nat × List Nat) := (true, [([], []), ([], []), ([1], [1]), ([0, 2], [0, 2]), ([3], [3]), ([], []), ([5], [5]), ([6], [6]), ([4, 7], [4, 7]), ([0, 2, 0, 1, 2, 3, 4, 5, 6, 7, 8], [0, 2]), ([9, 8, 0, 1, 2, 3, 4, 5, 6, 7, 8], [8, 9])])
def spec_magDiv.B11 : List Nat := [0, 0, 2, 7, 15, 0, 32, 96, 255, 511, 1023]
theorem spec_magDiv.tab11 : rtab .any (opsOf Tryd.f14 11) = spec_magDiv.T11 := by kernel_rfl
theorem spec_magDiv.bits11 : waitsOk spec_magDiv.T11.2 spec_magDiv.B11 = true := by kernel_rfl
set_option maxHeartbeats 8000000 in
set_option maxRecDepth 100000 in
theorem spec_magDiv.calls (k : Nat) (A0 : Option Addr) (c0 : Nat) (l0 : List Int) (A1 : Option Addr) (c1 : Nat) (l1 : List Int) (r1 : List Int) (r2 : List Int) (w : World) (hr0 : Kd.C (Kd.int .u32) w A0 l0.length l0) (hc0 : l0.length ≤ c0) (hr1 : Kd.C (Kd.int .u32) w A1 l1.length l1) (hc1 : l1.length ≤ c1) (h : spec_magDiv.f k l0 l1 = some (r1, r2)) :
  Calls Tryd.prog 14 #[.slice A0 l0.length c0, .slice A1 l1.length c1] w fun e w' => ∃ v0_ v1_ : Value, e = .returned (.tuple #[v0_, v1_]) ∧ Kd.V (Kd.int .u32) 40 w' w.heap.size (fun k_ => (w.heap.size ≤ k_)) v0_ r1 ∧ Kd.V (Kd.int .u32) 40 w' w.heap.size (fun k_ => (w.heap.size ≤ k_)) v1_ r2 ∧ Below w.heap.size w w' := by
 have HR0 := a0_ hr0
 have HC0 := a0_ hc0
 clear hr0 hc0
 have HR1 := a0_ hr1
 have HC1 := a0_ hc1
 clear hr1 hc1
 have HB := a0_ (Below.refl w.heap.size w)
 have H : (if 0 ≤ (l0.length : Int) then (if ((l0.length : Int) : Int).toNat ≤ 70368744177664 then (spec_magDiv.l0 k l0 l1 (List.replicate ((l0.length : Int) : Int).toNat 0) ([] : List Int) (wrap64 ((wrap64 (32 * (l0.length : Int))) - 1))) else (none)) else (none)) = some (r1, r2) := h
 clear h
 by_cases c3 : 0 ≤ (l0.length : Int)
 ·
  rw [if_pos c3] at H
  have c3b0 := eq_true c3
  have c3b1 : decide (0 ≤ (l0.length : Int)) = true := d2_ c3
  clear c3
  by_cases c4 : ((l0.length : Int) : Int).toNat ≤ 70368744177664
  ·
   rw [if_pos c4] at H
   have c4b0 := eq_true c4
   have c4b1 : decide (((l0.length : Int) : Int).toNat ≤ 70368744177664) = true := d2_ c4
   clear c4
   obtain ⟨y195, hy195⟩ : ∃ y_ : List Int, y_ = (List.replicate ((l0.length : Int) : Int).toNat 0) := ⟨_, rfl⟩
   replace H : (spec_magDiv.l0 k l0 l1 y195 ([] : List Int) (wrap64 ((wrap64 (32 * (l0.length : Int))) - 1))) = some (r1, r2) := by first | (rw [hy195]; with_reducible exact H) | (have H2_ := (o2_ _ _).symm.trans H; rw [hy195]; with_reducible exact H2_) | (have H2_ := (o2_ _ _).symm.trans H; with_reducible exact H2_) | with_reducible exact H | (rw [hy195]; exact H) | exact H
   have Ny195 := a0_ hy195
   clear hy195
   have H' := a0_ H
   clear H
   go_enter Tryd.func14, Tryd.ntmps14
   go_wp2_with (first | ((with_reducible refine gate_dst (N := 9) rfl ?_); refine Kd.R_make (Kd.int .u32) _ 40 rfl (N := 9) rfl 24 _ _ rfl (l0.length : Int) rfl rfl Tryd.underlying24 (.int .u32 0) 4 info40 rfl (by decide) (by omega) 0 (ok := fun _ => True) (okp := fun _ => True) rfl (fun _ hk => hk) trivial (d1_ (by first | (with_reducible assumption) | assumption)) (Nat.le_trans (Nat.mul_le_mul_right _ (d1_ (by first | (with_reducible assumption) | assumption) : (l0.length : Int).toNat ≤ 70368744177664)) (by omega)) (Below.refl _ _) (Nat.le_refl _) ?_; intro v196 w5 ho6 hb hg_ hnew_; clear hg_ hnew_; (first | rw [← Ny195.out] at ho6 | (simp only [Int.reduceToNat] at ho6; rw [← Ny195.out] at ho6)); have n0_ := a0_ (Kd.R_lower (Kd.R_newM (M := fun k_ => (w.heap.size ≤ k_)) ho6 (below_size (by repeat (first | (with_reducible first | exact HB.out | apply b1_ | apply b2_ | apply b3_) | exact HB.out))) (fun k_ h_ => h_)) (below_size (by repeat (first | (with_reducible first | exact HB.out | apply b1_ | apply b2_ | apply b3_) | exact HB.out)))); have n1_ := a0_ (below_step (by repeat (first | (with_reducible first | exact HB.out | apply b1_ | apply b2_ | apply b3_) | exact HB.out)) hb); clear HB; have HO197 := n0_; have HB := n1_; clear n0_ n1_; clear hb ho6))
   go_loopg [5, 6] k (fun kq v5 v6 w' => ∃ (x4_1 : List Int) (x5_1 : List Int) (x6_1 : Int), v6 = .int .i64 x6_1 ∧ Aside0 (spec_magDiv.l0 kq l0 l1 x4_1 x5_1 x6_1 = some (r1, r2)) ∧ Aside0 (kq ≤ k) ∧ Aside0 (Kd.R (Kd.int .u32) 40 w' w.heap.size (fun k_ => (w.heap.size ≤ k_)) v196 x4_1) ∧ Aside0 (Kd.V (Kd.int .u32) 40 w' w.heap.size (fun k_ => (w.heap.size ≤ k_) ∧ some k_ ≠ (v196 : Value).ownBlock) v5 x5_1) ∧ Aside0 (Below w.heap.size w w'))
   case atStart => exact ⟨(y195), (([] : List Int)), (wrap64 ((wrap64 (32 * (l0.length : Int))) - 1)), (by first | rfl | (simp; done) | (simp [*]; done)), H', ⟨Nat.le_refl _⟩, ⟨by (with_reducible repeat (first | apply r1_ | apply r2_ | apply r3_)); exact Kd.R_mono HO197.out (fun _ hk => hk.1)⟩, ⟨Kd.V_nil _ _ _ _ _⟩, ⟨by repeat (first | (with_reducible first | exact HB.out | apply b1_ | apply b2_ | apply b3_) | exact HB.out)⟩⟩
   case round =>
    clear H'
    try clear c1
    try clear p2
    try clear c3
    try clear c3b0
    try clear c3b1
    try clear c4
    try clear c4b0
    try clear c4b1
    try clear p6
    obtain ⟨x4_1, x5_1, x6_1, rfl, HA, HK1, HO_4, HO_5, HB⟩ := hrel
    cases gk with
    | zero => exact absurd HA.out (by simp [spec_magDiv.l0])
    | succ k1 =>
     have H := HA.out
     clear HA
     simp only [spec_magDiv.l0] at H
     by_cases c7 : x6_1 ≥ 0
     ·
      rw [if_pos c7] at H
      have c7b0 : decide (0 ≤ x6_1) = true := d2_ c7
      clear c7
      replace H := Option.bind_eq_some_iff.mp H
      obtain ⟨t201, A80, H⟩ := H
      replace H : (if 0 ≤ (wrap64 (Int.tdiv x6_1 32)) then (if (wrap64 (Int.tdiv x6_1 32)) < (l0.length : Int) then (if 0 ≤ (Int.tmod x6_1 32) then (if (Go.bits .and .u32 (shr .u32 (rd l0 (wrap64 (Int.tdiv x6_1 32))) (Int.tmod x6_1 32)) 1) = 1 then ((spec_magAdd.f k1 t201 (([1] : List Int))).bind fun t208 => (spec_magDiv.j1 k1 l0 l1 x4_1 t208 x6_1)) else (spec_magDiv.j1 k1 l0 l1 x4_1 t201 x6_1)) else (none)) else (none)) else (none)) = some (r1, r2) := H
      have A8 := a0_ A80
      clear A80
      obtain ⟨ji9, hji9⟩ : ∃ j_ : Int, (wrap64 (Int.tdiv x6_1 32)) = j_ := ⟨_, rfl⟩
      replace H : (if 0 ≤ (ji9) then (if (ji9) < (l0.length : Int) then (if 0 ≤ (Int.tmod x6_1 32) then (if (Go.bits .and .u32 (shr .u32 (rd l0 (ji9)) (Int.tmod x6_1 32)) 1) = 1 then ((spec_magAdd.f k1 t201 (([1] : List Int))).bind fun t208 => (spec_magDiv.j1 k1 l0 l1 x4_1 t208 x6_1)) else (spec_magDiv.j1 k1 l0 l1 x4_1 t201 x6_1)) else (none)) else (none)) else (none)) = some (r1, r2) := by first | (rw [hji9] at H; exact H) | (simp only [hji9] at H ⊢; exact H)
      (try rw [hji9] at A8)
      have hji9w : (IntKind.i64.wrap (Int.tdiv x6_1 32)) = ji9 := (i64_w _).trans hji9
      by_cases c10 : 0 ≤ (ji9)
      ·
       rw [if_pos c10] at H
       have c10b0 : decide (0 ≤ (ji9)) = true := d2_ c10
       clear c10
       by_cases c11 : (ji9) < (l0.length : Int)
       ·
        rw [if_pos c11] at H
        have c11b0 : decide ((ji9) < (l0.length : Int)) = true := d2_ c11
        clear c11
        obtain ⟨ji12, hji12⟩ : ∃ j_ : Int, (Int.tmod x6_1 32) = j_ := ⟨_, rfl⟩
        replace H : (if 0 ≤ (ji12) then (if (Go.bits .and .u32 (shr .u32 (rd l0 (ji9)) (ji12)) 1) = 1 then ((spec_magAdd.f k1 t201 (([1] : List Int))).bind fun t208 => (spec_magDiv.j1 k1 l0 l1 x4_1 t208 x6_1)) else (spec_magDiv.j1 k1 l0 l1 x4_1 t201 x6_1)) else (none)) = some (r1, r2) := by first | (rw [hji12] at H; exact H) | (simp only [hji12] at H ⊢; exact H)
        (try rw [hji12] at A8)
        by_cases c13 : 0 ≤ (ji12)
        ·
         rw [if_pos c13] at H
         have c13b0 := eq_true c13
         have c13b1 : decide (0 ≤ (ji12)) = true := d2_ c13
         clear c13
         obtain ⟨ji14, hji14⟩ : ∃ j_ : Int, (shr .u32 (rd l0 (ji9)) (ji12)) = j_ := ⟨_, rfl⟩
         replace H : (if (Go.bits .and .u32 (ji14) 1) = 1 then ((spec_magAdd.f k1 t201 (([1] : List Int))).bind fun t208 => (spec_magDiv.j1 k1 l0 l1 x4_1 t208 x6_1)) else (spec_magDiv.j1 k1 l0 l1 x4_1 t201 x6_1)) = some (r1, r2) := by first | (rw [hji14] at H; exact H) | (simp only [hji14] at H ⊢; exact H)
         (try rw [hji14] at A8)
         have hji14_ : ((rd l0 (ji9)) / 2 ^ min (ji12).toNat 32) = ji14 := hji14
         have hji14z : (ji12) ≤ 32 → ((rd l0 (ji9)) / 2 ^ (ji12).toNat) = ji14 := shr_small hji14
         have HC15 := a0_ H
         clear H
         obtain ⟨Ao16, co16, eo16⟩ := Kd.V_slice HO_5.out
         subst eo16
         go_upto_if 30 with (first | ((with_reducible refine gate_callee (f := 20) rfl ?_); refine goesL_ (some 20) rfl rfl Tryd.func20 (by kernel_rfl) rfl #[.slice Ao16 x5_1.length co16, .slice Ao16 x5_1.length co16] rfl (by (try simp only [List.map_toArray, List.map_cons, List.map_nil]); first | done | rfl | (simp only [List.length_drop, List.length_take]; rfl)) ?_; (with_reducible refine (spec_magAdd.calls k1 _ _ x5_1 _ _ x5_1 t201 _ ?side1 ?side2 ?side3 ?side4 A8.out).mono ?_); (case side1 => repeat (first | exact (Kd.V_reads' HO_5.out).2.2 | (with_reducible refine Kd.C_alloc ?_ _) | (with_reducible refine Kd.C_drewN ?_ _) | (with_reducible refine Kd.C_drew ?_))); (case side2 => exact (Kd.V_reads' HO_5.out).2.1); (case side3 => repeat (first | exact (Kd.V_reads' HO_5.out).2.2 | (with_reducible refine Kd.C_alloc ?_ _) | (with_reducible refine Kd.C_drewN ?_ _) | (with_reducible refine Kd.C_drew ?_))); (case side4 => exact (Kd.V_reads' HO_5.out).2.1); rintro e w17 ⟨v202, rfl, ho0, hb⟩; refine ⟨_, rfl, ?_⟩; have n0_ := a0_ (Kd.R_elder' (by (with_reducible repeat (first | apply r1_ | apply r2_ | apply r3_)); exact HO_4.out) (Kd.R_base ho0) hb); have n1_ := a0_ (Kd.V_elder' (by (with_reducible repeat (first | apply v1_ | apply v2_ | apply v3_)); exact HO_5.out) (Kd.R_base ho0) hb); have n2_ := a0_ (Kd.R_lower (Kd.R_new' (Kd.R_newM (M := fun k_ => (w.heap.size ≤ k_)) ho0 (below_size (by repeat (first | (with_reducible first | exact HB.out | apply b1_ | apply b2_ | apply b3_) | exact HB.out))) (fun k_ h_ => h_)) (Kd.R_lt (by (with_reducible repeat (first | apply r1_ | apply r2_ | apply r3_)); exact HO_4.out))) (below_size (by repeat (first | (with_reducible first | exact HB.out | apply b1_ | apply b2_ | apply b3_) | exact HB.out)))); have n3_ := a0_ (below_step (by repeat (first | (with_reducible first | exact HB.out | apply b1_ | apply b2_ | apply b3_) | exact HB.out)) hb); clear HO_4; clear HO_5; clear HB; have HO_4 := n0_; have HO_5 := n1_; have HO203 := n2_; have HB := n3_; clear n0_ n1_ n2_ n3_; (try clear hb); (try clear hb2); (try clear hk); (try clear hi); (try clear ho0); have p204 : 0 ≤ ((ji9) : Int) := d1_ (by first | (with_reducible assumption) | assumption); have q204 : (ji9) < (l0.length : Int) := d1_ (by first | (with_reducible assumption) | assumption); obtain ⟨ad204, e204, hx204_0⟩ := Kd.at_int HR0.out (ji9) p204 q204; cases e204; replace hx204_0 := (HB.out.cell (World.block_lt_of_cell? w _ hx204_0)).trans hx204_0; replace p204 := eq_true p204; replace q204 := eq_true q204))
         (try simp only [Act.put, s1_, s2_, s3_])
         go_cut [5] (fun v5 wc => ∃ (kq : Nat) (x5_14 : List Int), Aside0 (spec_magDiv.j1 kq l0 l1 x4_1 x5_14 x6_1 = some (r1, r2)) ∧ Aside0 (kq ≤ k1) ∧ Aside0 (Kd.R (Kd.int .u32) 40 wc w.heap.size (fun k_ => (w.heap.size ≤ k_) ∧ some k_ ≠ (v5 : Value).ownBlock) v196 x4_1) ∧ Aside0 (Kd.R (Kd.int .u32) 40 wc w.heap.size (fun k_ => (w.heap.size ≤ k_) ∧ some k_ ≠ (v196 : Value).ownBlock) v5 x5_14) ∧ Aside0 (Below w.heap.size w wc))
         case first =>
          have H := HC15.out
          clear HC15
          by_cases c18 : (Go.bits .and .u32 (ji14) 1) = 1
          ·
           rw [if_pos c18] at H
           have c18b0 : ((Go.bits .and .u32 (ji14) 1) == 1) = true := beq_iff_eq.mpr c18
           have c18b1 : ((Go.bits .and .u32 (ji14) 1) != 1) = false := bne_eq_false_iff_eq.mpr c18
           clear c18
           (first | rw [c18b0] | (simp only [i64_w, i32_w]; rw [c18b0]) | skip)
           obtain ⟨y205, hy205⟩ : ∃ y_ : List Int, y_ = (([1] : List Int)) := ⟨_, rfl⟩
           replace H : ((spec_magAdd.f k1 t201 y205).bind fun t208 => (spec_magDiv.j1 k1 l0 l1 x4_1 t208 x6_1)) = some (r1, r2) := by first | (rw [hy205]; with_reducible exact H) | (have H2_ := (o2_ _ _).symm.trans H; rw [hy205]; with_reducible exact H2_) | (have H2_ := (o2_ _ _).symm.trans H; with_reducible exact H2_) | with_reducible exact H | (rw [hy205]; exact H) | exact H
           have Ny205 := a0_ hy205
           clear hy205
           replace H := Option.bind_eq_some_iff.mp H
           obtain ⟨t208, A190, H⟩ := H
           replace H : (spec_magDiv.j1 k1 l0 l1 x4_1 t208 x6_1) = some (r1, r2) := H
           have A19 := a0_ A190
           clear A190
           have H' := a0_ H
           clear H
           go_wp2_with (first | ((with_reducible refine gate_dst (N := 32) rfl ?_); refine Kd.R_lit (Kd.int .u32) _ 40 ?hg (N := 32) ?hd (xs := ([1] : List Int)) (inner := [.int .u32 1]) (ok := fun _ => True) (okp := fun _ => True) ?hr ?hp (fun _ hk => hk) trivial (Below.refl _ _) (Nat.le_refl _) (by simp) ?_; (case hd => rfl); (case hg => rfl); (case hr => first | (go_simp; done) | (go_simp; rfl)); (case hp => exact (Reps.one (show Kd.M (Kd.int .u32) _ _ _ 1 [.int .u32 1] from rfl) (Reps.none _ _))); intro v206 w20 ho21 hb hg_ hnew_; clear hg_ hnew_; (first | rw [← Ny205.out] at ho21 | (simp only [Int.reduceToNat] at ho21; rw [← Ny205.out] at ho21)); have n0_ := a0_ (Kd.R_elder' (by (with_reducible repeat (first | apply r1_ | apply r2_ | apply r3_)); exact HO_4.out) (Kd.R_base ho21) hb); have n1_ := a0_ (Kd.V_elder' (by (with_reducible repeat (first | apply v1_ | apply v2_ | apply v3_)); exact HO_5.out) (Kd.R_base ho21) hb); have n2_ := a0_ (Kd.R_elder' (by (with_reducible repeat (first | apply r1_ | apply r2_ | apply r3_)); exact HO203.out) (Kd.R_base ho21) hb); have n3_ := a0_ (Kd.R_lower (Kd.R_new' (Kd.R_new' (Kd.R_newM (M := fun k_ => (w.heap.size ≤ k_)) ho21 (below_size (by repeat (first | (with_reducible first | exact HB.out | apply b1_ | apply b2_ | apply b3_) | exact HB.out))) (fun k_ h_ => h_)) (Kd.R_lt (by (with_reducible repeat (first | apply r1_ | apply r2_ | apply r3_)); exact HO_4.out))) (Kd.R_lt (by (with_reducible repeat (first | apply r1_ | apply r2_ | apply r3_)); exact HO203.out))) (below_size (by repeat (first | (with_reducible first | exact HB.out | apply b1_ | apply b2_ | apply b3_) | exact HB.out)))); have n4_ := a0_ (below_step (by repeat (first | (with_reducible first | exact HB.out | apply b1_ | apply b2_ | apply b3_) | exact HB.out)) hb); clear HO_4; clear HO_5; clear HO203; clear HB; have HO_4 := n0_; have HO_5 := n1_; have HO203 := n2_; have HO207 := n3_; have HB := n4_; clear n0_ n1_ n2_ n3_ n4_; clear hb ho21; obtain ⟨Ao22, co22, eo22⟩ := Kd.R_slice HO203.out; subst eo22; obtain ⟨Ao23, co23, eo23⟩ := Kd.R_slice HO207.out; subst eo23) | ((with_reducible refine gate_callee (f := 20) rfl ?_); refine goesL_ (some 33) rfl rfl Tryd.func20 (by kernel_rfl) rfl #[.slice Ao22 t201.length co22, .slice Ao23 y205.length co23] rfl (by (try simp only [List.map_toArray, List.map_cons, List.map_nil]); first | done | rfl | (simp only [List.length_drop, List.length_take]; rfl)) ?_; (with_reducible refine (spec_magAdd.calls k1 _ _ t201 _ _ y205 t208 _ ?side1 ?side2 ?side3 ?side4 A19.out).mono ?_); (case side1 => repeat (first | exact (Kd.R_reads' HO203.out).2.2 | (with_reducible refine Kd.C_alloc ?_ _) | (with_reducible refine Kd.C_drewN ?_ _) | (with_reducible refine Kd.C_drew ?_))); (case side2 => exact (Kd.R_reads' HO203.out).2.1); (case side3 => repeat (first | exact (Kd.R_reads' HO207.out).2.2 | (with_reducible refine Kd.C_alloc ?_ _) | (with_reducible refine Kd.C_drewN ?_ _) | (with_reducible refine Kd.C_drew ?_))); (case side4 => exact (Kd.R_reads' HO207.out).2.1); rintro e w24 ⟨v209, rfl, ho0, hb⟩; refine ⟨_, rfl, ?_⟩; have n0_ := a0_ (Kd.R_elder' (by (with_reducible repeat (first | apply r1_ | apply r2_ | apply r3_)); exact HO_4.out) (Kd.R_base ho0) hb); have n1_ := a0_ (Kd.V_elder' (by (with_reducible repeat (first | apply v1_ | apply v2_ | apply v3_)); exact HO_5.out) (Kd.R_base ho0) hb); have n2_ := a0_ (Kd.R_elder' (by (with_reducible repeat (first | apply r1_ | apply r2_ | apply r3_)); exact HO203.out) (Kd.R_base ho0) hb); have n3_ := a0_ (Kd.R_elder' (by (with_reducible repeat (first | apply r1_ | apply r2_ | apply r3_)); exact HO207.out) (Kd.R_base ho0) hb); have n4_ := a0_ (Kd.R_lower (Kd.R_new' (Kd.R_new' (Kd.R_new' (Kd.R_newM (M := fun k_ => (w.heap.size ≤ k_)) ho0 (below_size (by repeat (first | (with_reducible first | exact HB.out | apply b1_ | apply b2_ | apply b3_) | exact HB.out))) (fun k_ h_ => h_)) (Kd.R_lt (by (with_reducible repeat (first | apply r1_ | apply r2_ | apply r3_)); exact HO_4.out))) (Kd.R_lt (by (with_reducible repeat (first | apply r1_ | apply r2_ | apply r3_)); exact HO203.out))) (Kd.R_lt (by (with_reducible repeat (first | apply r1_ | apply r2_ | apply r3_)); exact HO207.out))) (below_size (by repeat (first | (with_reducible first | exact HB.out | apply b1_ | apply b2_ | apply b3_) | exact HB.out)))); have n5_ := a0_ (below_step (by repeat (first | (with_reducible first | exact HB.out | apply b1_ | apply b2_ | apply b3_) | exact HB.out)) hb); clear HO_4; clear HO_5; clear HO203; clear HO207; clear HB; have HO_4 := n0_; have HO_5 := n1_; have HO203 := n2_; have HO207 := n3_; have HO210 := n4_; have HB := n5_; clear n0_ n1_ n2_ n3_ n4_ n5_; (try clear hb); (try clear hb2); (try clear hk); (try clear hi); (try clear ho0)))
           go_meet
           case rel => exact ⟨_, (t208), H', ⟨by have := HK1.out; first | omega | exact Nat.le_refl _⟩, ⟨by (with_reducible repeat (first | apply r1_ | apply r2_ | apply r3_)); exact Kd.R_mono HO_4.out (fun _ hk => ⟨hk.1.1.1, hk.2⟩)⟩, ⟨by (with_reducible repeat (first | apply r1_ | apply r2_ | apply r3_)); exact Kd.R_mono HO210.out (fun _ hk => ⟨hk.1.1.1.1, hk.1.1.2⟩)⟩, ⟨by repeat (first | (with_reducible first | exact HB.out | apply b1_ | apply b2_ | apply b3_) | exact HB.out)⟩⟩
          ·
           rw [if_neg c18] at H
           have c18b0 : ((Go.bits .and .u32 (ji14) 1) == 1) = false := beq_eq_false_iff_ne.mpr c18
           have c18b1 : ((Go.bits .and .u32 (ji14) 1) != 1) = true := bne_iff_ne.mpr c18
           (first | rw [c18b0] | (simp only [i64_w, i32_w]; rw [c18b0]) | skip)
           have H' := a0_ H
           clear H
           go_wp2
           go_meet
           case rel => exact ⟨_, (t201), H', ⟨by have := HK1.out; first | omega | exact Nat.le_refl _⟩, ⟨by (with_reducible repeat (first | apply r1_ | apply r2_ | apply r3_)); exact HO_4.out⟩, ⟨by (with_reducible repeat (first | apply r1_ | apply r2_ | apply r3_)); exact Kd.R_mono HO203.out (fun _ hk => ⟨hk.1.1, hk.2⟩)⟩, ⟨by repeat (first | (with_reducible first | exact HB.out | apply b1_ | apply b2_ | apply b3_) | exact HB.out)⟩⟩
         case rest =>
          clear HC15
          try clear c1
          try clear c2
          try clear p2
          try clear q2
          try clear hx2
          try clear c3
          try clear c3b0
          try clear c3b1
          try clear c4
          try clear c4b0
          try clear c4b1
          try clear p6
          try clear c7
          try clear c7b0
          try clear c10
          try clear c10b0
          try clear c11
          try clear c11b0
          try clear c13
          try clear c13b0
          try clear c13b1
          try clear c14
          try clear c18
          try clear c18b0
          try clear c18b1
          try clear c20
          try clear p20
          try clear q20
          try clear hx20
          try clear hx204_0
          try clear p2
          try clear p204
          try clear p6
          try clear q204
          obtain ⟨kq, x5_14, HA, HJ14, HO_4, HO_5, HB⟩ := hcut
          cases kq with
          | zero => exact absurd HA.out (by simp [spec_magDiv.j1])
          | succ kj14 =>
           have H := HA.out
           clear HA
           simp only [spec_magDiv.j1] at H
           replace H := Option.bind_eq_some_iff.mp H
           obtain ⟨t211, A250, H⟩ := H
           replace H : ((spec_magCmp.f kj14 t211 l1).bind fun t214 => (if t214 ≥ 0 then ((spec_magSub.f kj14 t211 l1).bind fun t215 => (if 0 ≤ (wrap64 (Int.tdiv x6_1 32)) then (if (wrap64 (Int.tdiv x6_1 32)) < (x4_1.length : Int) then (if 0 ≤ (Int.tmod x6_1 32) then (spec_magDiv.l0 kj14 l0 l1 (x4_1.set ((wrap64 (Int.tdiv x6_1 32)) : Int).toNat (Go.bits .or .u32 (rd x4_1 (wrap64 (Int.tdiv x6_1 32))) (shl .u32 1 (Int.tmod x6_1 32)))) t215 (wrap64 (x6_1 - 1))) else (none)) else (none)) else (none))) else (spec_magDiv.l0 kj14 l0 l1 x4_1 t211 (wrap64 (x6_1 - 1))))) = some (r1, r2) := H
           have A25 := a0_ A250
           clear A250
           replace H := Option.bind_eq_some_iff.mp H
           obtain ⟨t214, A260, H⟩ := H
           replace H : (if t214 ≥ 0 then ((spec_magSub.f kj14 t211 l1).bind fun t215 => (if 0 ≤ (wrap64 (Int.tdiv x6_1 32)) then (if (wrap64 (Int.tdiv x6_1 32)) < (x4_1.length : Int) then (if 0 ≤ (Int.tmod x6_1 32) then (spec_magDiv.l0 kj14 l0 l1 (x4_1.set ((wrap64 (Int.tdiv x6_1 32)) : Int).toNat (Go.bits .or .u32 (rd x4_1 (wrap64 (Int.tdiv x6_1 32))) (shl .u32 1 (Int.tmod x6_1 32)))) t215 (wrap64 (x6_1 - 1))) else (none)) else (none)) else (none))) else (spec_magDiv.l0 kj14 l0 l1 x4_1 t211 (wrap64 (x6_1 - 1)))) = some (r1, r2) := H
           have A26 := a0_ A260
           clear A260
           by_cases c27 : t214 ≥ 0
           ·
            rw [if_pos c27] at H
            have c27b0 : decide (0 ≤ t214) = true := d2_ c27
            clear c27
            replace H := Option.bind_eq_some_iff.mp H
            obtain ⟨t215, A280, H⟩ := H
            replace H : (if 0 ≤ (wrap64 (Int.tdiv x6_1 32)) then (if (wrap64 (Int.tdiv x6_1 32)) < (x4_1.length : Int) then (if 0 ≤ (Int.tmod x6_1 32) then (spec_magDiv.l0 kj14 l0 l1 (x4_1.set ((wrap64 (Int.tdiv x6_1 32)) : Int).toNat (Go.bits .or .u32 (rd x4_1 (wrap64 (Int.tdiv x6_1 32))) (shl .u32 1 (Int.tmod x6_1 32)))) t215 (wrap64 (x6_1 - 1))) else (none)) else (none)) else (none)) = some (r1, r2) := H
            have A28 := a0_ A280
            clear A280
            replace H : (if 0 ≤ (ji9) then (if (ji9) < (x4_1.length : Int) then (if 0 ≤ (Int.tmod x6_1 32) then (spec_magDiv.l0 kj14 l0 l1 (x4_1.set ((ji9) : Int).toNat (Go.bits .or .u32 (rd x4_1 (ji9)) (shl .u32 1 (Int.tmod x6_1 32)))) t215 (wrap64 (x6_1 - 1))) else (none)) else (none)) else (none)) = some (r1, r2) := by first | (rw [hji9] at H; exact H) | (simp only [hji9] at H ⊢; exact H)
            (try rw [hji9] at A25)
            (try rw [hji9] at A26)
            (try rw [hji9] at A28)
            have hji9w : (IntKind.i64.wrap (Int.tdiv x6_1 32)) = ji9 := (i64_w _).trans hji9
            by_cases c30 : 0 ≤ (ji9)
            ·
             rw [if_pos c30] at H
             have c30b0 : decide (0 ≤ (ji9)) = true := d2_ c30
             clear c30
             by_cases c31 : (ji9) < (x4_1.length : Int)
             ·
              rw [if_pos c31] at H
              have c31b0 : decide ((ji9) < (x4_1.length : Int)) = true := d2_ c31
              clear c31
              replace H : (if 0 ≤ (ji12) then (spec_magDiv.l0 kj14 l0 l1 (x4_1.set ((ji9) : Int).toNat (Go.bits .or .u32 (rd x4_1 (ji9)) (shl .u32 1 (ji12)))) t215 (wrap64 (x6_1 - 1))) else (none)) = some (r1, r2) := by first | (rw [hji12] at H; exact H) | (simp only [hji12] at H ⊢; exact H)
              (try rw [hji12] at A25)
              (try rw [hji12] at A26)
              (try rw [hji12] at A28)
              by_cases c33 : 0 ≤ (ji12)
              ·
               rw [if_pos c33] at H
               have c33b0 := eq_true c33
               have c33b1 : decide (0 ≤ (ji12)) = true := d2_ c33
               clear c33
               obtain ⟨ji34, hji34⟩ : ∃ j_ : Int, (shl .u32 1 (ji12)) = j_ := ⟨_, rfl⟩
               replace H : (spec_magDiv.l0 kj14 l0 l1 (x4_1.set ((ji9) : Int).toNat (Go.bits .or .u32 (rd x4_1 (ji9)) (ji34))) t215 (wrap64 (x6_1 - 1))) = some (r1, r2) := by first | (rw [hji34] at H; exact H) | (simp only [hji34] at H ⊢; exact H)
               (try rw [hji34] at A25)
               (try rw [hji34] at A26)
               (try rw [hji34] at A28)
               have hji34_ : (IntKind.u32.wrap (1 * 2 ^ min (ji12).toNat 32)) = ji34 := hji34
               have hji34z : (ji12) ≤ 32 → (IntKind.u32.wrap (1 * 2 ^ (ji12).toNat)) = ji34 := shl_small hji34
               have hji34u : (IntKind.u32.wrap (2 ^ min (ji12).toNat 32)) = ji34 := by have h_ := hji34_; rw [Int.one_mul] at h_; exact h_
               have hji34v : (ji12) ≤ 32 → (IntKind.u32.wrap (2 ^ (ji12).toNat)) = ji34 := fun hle_ => by have h_ := hji34z hle_; rw [Int.one_mul] at h_; exact h_
               obtain ⟨y219, hy219⟩ : ∃ y_ : List Int, y_ = (x4_1.set ((ji9) : Int).toNat (Go.bits .or .u32 (rd x4_1 (ji9)) (ji34))) := ⟨_, rfl⟩
               replace H : (spec_magDiv.l0 kj14 l0 l1 y219 t215 (wrap64 (x6_1 - 1))) = some (r1, r2) := by first | (rw [hy219]; with_reducible exact H) | (have H2_ := (o2_ _ _).symm.trans H; rw [hy219]; with_reducible exact H2_) | (have H2_ := (o2_ _ _).symm.trans H; with_reducible exact H2_) | with_reducible exact H | (rw [hy219]; exact H) | exact H
               have Ny219 := a0_ hy219
               clear hy219
               have H' := a0_ H
               clear H
               obtain ⟨Ao36, co36, eo36⟩ := Kd.R_slice HO_5.out
               subst eo36
               try go_wp2_with (first | ((with_reducible refine gate_callee (f := 19) rfl ?_); refine goesL_ (some 35) rfl rfl Tryd.func19 (by kernel_rfl) rfl #[.slice Ao36 x5_14.length co36] rfl (by (try simp only [List.map_toArray, List.map_cons, List.map_nil]); first | done | rfl | (simp only [List.length_drop, List.length_take]; rfl)) ?_; (with_reducible refine (spec_trim.calls kj14 (fun k_ => some k_ = (.slice Ao36 x5_14.length co36 : Value).ownBlock) _ _ x5_14 t211 _ ?side1 A25.out).mono ?_); (case side1 => exact Kd.R_V (Kd.R_tight rfl (HO_5.out))); rintro e w37 ⟨v212, rfl, ho0, hb⟩; refine ⟨_, rfl, ?_⟩; have n0_ := a0_ (Kd.R_below (by (with_reducible repeat (first | apply r1_ | apply r2_ | apply r3_)); exact HO_4.out) hb); have n1_ := a0_ (Kd.R_below (by (with_reducible repeat (first | apply r1_ | apply r2_ | apply r3_)); exact HO_5.out) hb); have n2_ := a0_ (Kd.V_lower (v4_ (ok' := fun k_ => (w.heap.size ≤ k_) ∧ some k_ ≠ (v196 : Value).ownBlock) ho0 (fun k_ hk_ => ⟨Or.elim hk_ (fun hs_ => ((HO_5.out).1 k_ hs_.symm).1) (fun hn_ => (Nat.le_trans (below_size (by repeat (first | (with_reducible first | exact HB.out | apply b1_ | apply b2_ | apply b3_) | exact HB.out))) hn_)), Or.elim hk_ (fun hs_ => ((HO_5.out).1 k_ hs_.symm).2) (fun hn_ => (Kd.fresh' (Kd.R_lt (by (with_reducible repeat (first | apply r1_ | apply r2_ | apply r3_)); exact HO_4.out)) k_ hn_))⟩)) (below_size (by repeat (first | (with_reducible first | exact HB.out | apply b1_ | apply b2_ | apply b3_) | exact HB.out)))); have n3_ := a0_ (below_step (by repeat (first | (with_reducible first | exact HB.out | apply b1_ | apply b2_ | apply b3_) | exact HB.out)) hb); clear HO_4; clear HO_5; clear HB; have HO_4 := n0_; have HO_5 := n1_; have HO213 := n2_; have HB := n3_; clear n0_ n1_ n2_ n3_; (try clear hb); (try clear hb2); (try clear hk); (try clear hi); (try clear ho0); obtain ⟨Ao38, co38, eo38⟩ := Kd.V_slice HO213.out; subst eo38) | ((with_reducible refine gate_callee (f := 21) rfl ?_); refine goesL_ (some 38) rfl rfl Tryd.func21 (by kernel_rfl) rfl #[.slice Ao38 t211.length co38, .slice A1 l1.length c1] rfl (by (try simp only [List.map_toArray, List.map_cons, List.map_nil]); first | done | rfl | (simp only [List.length_drop, List.length_take]; rfl)) ?_; (with_reducible refine (spec_magCmp.calls kj14 _ _ t211 _ _ l1 t214 _ ?side1 ?side2 ?side3 ?side4 A26.out).mono ?_); (case side1 => repeat (first | exact (Kd.V_reads' HO213.out).2.2 | (with_reducible refine Kd.C_alloc ?_ _) | (with_reducible refine Kd.C_drewN ?_ _) | (with_reducible refine Kd.C_drew ?_))); (case side2 => exact (Kd.V_reads' HO213.out).2.1); (case side3 => repeat (first | exact (Kd.C_below HR1.out HB.out) | (with_reducible refine Kd.C_alloc ?_ _) | (with_reducible refine Kd.C_drewN ?_ _) | (with_reducible refine Kd.C_drew ?_))); (case side4 => exact HC1.out); rintro e w' ⟨rfl, ⟨nd, rfl⟩⟩; refine ⟨_, rfl, ?_⟩; (try (rw [drewN_self w37]; generalize hq_ : World.drewN w37 _ = w37; have n0_ : Aside0 (Kd.V (Kd.int .u32) 40 w37 w.heap.size (fun k_ => (w.heap.size ≤ k_) ∧ some k_ ≠ (v196 : Value).ownBlock) (.slice Ao38 t211.length co38) t211) := ⟨by rw [← hq_]; exact (by (with_reducible repeat (first | apply v1_ | apply v2_ | apply v3_)); exact HO213.out)⟩; have n1_ : Aside0 (Kd.R (Kd.int .u32) 40 w37 w.heap.size (fun k_ => (w.heap.size ≤ k_) ∧ some k_ ≠ (.slice Ao36 x5_14.length co36 : Value).ownBlock) v196 x4_1) := ⟨by rw [← hq_]; exact (by (with_reducible repeat (first | apply r1_ | apply r2_ | apply r3_)); exact HO_4.out)⟩; have n2_ : Aside0 (Kd.R (Kd.int .u32) 40 w37 w.heap.size (fun k_ => (w.heap.size ≤ k_) ∧ some k_ ≠ (v196 : Value).ownBlock) (.slice Ao36 x5_14.length co36) x5_14) := ⟨by rw [← hq_]; exact (by (with_reducible repeat (first | apply r1_ | apply r2_ | apply r3_)); exact HO_5.out)⟩; have n3_ : Aside0 (Below w.heap.size w w37) := ⟨by rw [← hq_]; exact (by repeat (first | (with_reducible first | exact HB.out | apply b1_ | apply b2_ | apply b3_) | exact HB.out))⟩; clear HO213 HO_4 HO_5 HB hq_; have HO213 := n0_; have HO_4 := n1_; have HO_5 := n2_; have HB := n3_; clear n0_ n1_ n2_ n3_))) | ((with_reducible refine gate_callee (f := 22) rfl ?_); refine goesL_ (some 42) rfl rfl Tryd.func22 (by kernel_rfl) rfl #[.slice Ao38 t211.length co38, .slice A1 l1.length c1] rfl (by (try simp only [List.map_toArray, List.map_cons, List.map_nil]); first | done | rfl | (simp only [List.length_drop, List.length_take]; rfl)) ?_; (with_reducible refine (spec_magSub.calls kj14 _ _ t211 _ _ l1 t215 _ ?side1 ?side2 ?side3 ?side4 A28.out).mono ?_); (case side1 => repeat (first | exact (Kd.V_reads' HO213.out).2.2 | (with_reducible refine Kd.C_alloc ?_ _) | (with_reducible refine Kd.C_drewN ?_ _) | (with_reducible refine Kd.C_drew ?_))); (case side2 => exact (Kd.V_reads' HO213.out).2.1); (case side3 => repeat (first | exact (Kd.C_below HR1.out HB.out) | (with_reducible refine Kd.C_alloc ?_ _) | (with_reducible refine Kd.C_drewN ?_ _) | (with_reducible refine Kd.C_drew ?_))); (case side4 => exact HC1.out); rintro e w39 ⟨v216, rfl, ho0, hb⟩; refine ⟨_, rfl, ?_⟩; have n0_ := a0_ (Kd.R_below (by (with_reducible repeat (first | apply r1_ | apply r2_ | apply r3_)); exact HO_4.out) hb); have n1_ := a0_ (Kd.R_below (by (with_reducible repeat (first | apply r1_ | apply r2_ | apply r3_)); exact HO_5.out) hb); have n2_ := a0_ (Kd.V_below (by (with_reducible repeat (first | apply v1_ | apply v2_ | apply v3_)); exact HO213.out) hb); have n3_ := a0_ (Kd.V_lower (v4_ (ok' := fun k_ => (w.heap.size ≤ k_) ∧ some k_ ≠ (v196 : Value).ownBlock ∧ some k_ ≠ (.slice Ao36 x5_14.length co36 : Value).ownBlock) ho0 (fun k_ hk_ => ⟨(Nat.le_trans (below_size (by repeat (first | (with_reducible first | exact HB.out | apply b1_ | apply b2_ | apply b3_) | exact HB.out))) hk_), (Kd.fresh' (Kd.R_lt (by (with_reducible repeat (first | apply r1_ | apply r2_ | apply r3_)); exact HO_4.out)) k_ hk_), (Kd.fresh' (Kd.R_lt (by (with_reducible repeat (first | apply r1_ | apply r2_ | apply r3_)); exact HO_5.out)) k_ hk_)⟩)) (below_size (by repeat (first | (with_reducible first | exact HB.out | apply b1_ | apply b2_ | apply b3_) | exact HB.out)))); have n4_ := a0_ (below_step (by repeat (first | (with_reducible first | exact HB.out | apply b1_ | apply b2_ | apply b3_) | exact HB.out)) hb); clear HO_4; clear HO_5; clear HO213; clear HB; have HO_4 := n0_; have HO_5 := n1_; have HO213 := n2_; have HO217 := n3_; have HB := n4_; clear n0_ n1_ n2_ n3_ n4_; (try clear hb); (try clear hb2); (try clear hk); (try clear hi); (try clear ho0)))
               have n0_ := a0_ (r3_ HO_4.out)
               have n1_ := a0_ (r3_ HO_5.out)
               have n2_ := a0_ (v3_ HO213.out)
               have n3_ := a0_ (v3_ HO217.out)
               have n4_ := a0_ (b3_ HB.out)
               clear HO_4
               clear HO_5
               clear HO213
               clear HO217
               clear HB
               have HO_4 := n0_
               have HO_5 := n1_
               have HO213 := n2_
               have HO217 := n3_
               have HB := n4_
               clear n0_ n1_ n2_ n3_ n4_
               obtain ⟨Ao41, co41, eo41⟩ := Kd.R_slice HO_4.out
               (first | subst eo41 | (injection eo41 with f1_ f2_ f3_; have f4_ := f1_.symm; have f5_ := f3_.symm; clear f1_ f2_ f3_; subst f4_; subst f5_))
               have p218 : 0 ≤ ((ji9) : Int) := d1_ (by first | (with_reducible assumption) | assumption)
               have q218 : (ji9) < (x4_1.length : Int) := d1_ (by first | (with_reducible assumption) | assumption)
               obtain ⟨ad218, e218, hx218_0⟩ := Kd.at_int (Kd.R_reads' HO_4.out).2.2 (ji9) p218 q218
               cases e218
               replace p218 := eq_true p218
               replace q218 := eq_true q218
               have p35 : 0 ≤ ((ji9) : Int) := d1_ (by first | (with_reducible assumption) | assumption)
               have q35 : ((ji9) : Int) < ((x4_1.length : Int) : Int) := d1_ (by first | (with_reducible assumption) | assumption)
               obtain ⟨go35, co35, eo35, gb35, gl35, cl35, HG35⟩ := Kd.R_form HO_4.out (by omega)
               (first | cases eo35 | (injection eo35 with ea_ en_ ec_; (first | subst ea_ | (injection ea_ with ea_; subst ea_)); subst ec_; clear en_))
               have GB35 := a0_ gb35
               have GG35 := a0_ HG35
               clear gb35 gl35 HG35
               (first | simp only [add_plain] at hx218_0 | skip)
               obtain ⟨hx35_0, hf35_0⟩ := Kd.R_celln 0 HO_4.out ((ji9) : Int) p35 q35
               replace p35 := eq_true p35
               replace q35 := eq_true q35
               have HP42 := Kd.R_putn HO_4.out ((ji9) : Int) (Go.bits .or .u32 (rd x4_1 (ji9)) (ji34))
               rw [← Ny219.out] at HP42
               have HQ42 := a0_ HP42
               clear HP42
               refine start_ (n := 11) (S := fun w' => w'.cell? ⟨go35, ((ji9)).toNat, none⟩ = some (.int .u32 (rd x4_1 (ji9)))) (ds := [10]) #[false, false, false, false, false, false, false, false, false, false, false] (by kernel_rfl) rfl rfl (hx218_0) (fun hHeld => ?_); refine with_tabW spec_magDiv.tab11 spec_magDiv.bits11 (fun HT_ HW_ => ?_)
               generalize w39.drew = w40 at HO_4 HO_5 HO213 HO217 HB GG35 HQ42 hf35_0 hx218_0 hx35_0 hHeld ⊢
               refine pure_ (i := 0) (N := some 43) (v := ?_) (a' := ?_) #[true, false, false, false, false, false, false, false, false, false, false] rfl rfl (any_of HT_.out (by kernel_rfl)) (fun _ _ _ h => h) (Or.inl ⟨by rfl, ?_⟩) ?_ ?_
               rotate_left
               ·
                intro w'
                go_simp
                with_reducible rfl
               rotate_left
               ·
                simp only [Act.put, s1_, s2_, s3_, i64_w, i32_w]
                rfl
               refine pure_ (i := 1) (N := some 44) (v := ?_) (a' := ?_) #[true, true, false, false, false, false, false, false, false, false, false] rfl rfl (any_of HT_.out (by kernel_rfl)) (fun _ _ _ h => h) (Or.inl ⟨by rfl, ?_⟩) ?_ ?_
               rotate_left
               ·
                intro w'
                go_simp
                with_reducible rfl
               rotate_left
               ·
                simp only [Act.put, s1_, s2_, s3_, i64_w, i32_w]
                rfl
               refine pure_ (i := 2) (N := some 45) (v := ?_) (a' := ?_) #[true, true, true, false, false, false, false, false, false, false, false] rfl rfl (any_of HT_.out (by kernel_rfl)) (fun _ _ _ h => h) (Or.inl ⟨by rfl, ?_⟩) ?_ ?_
               rotate_left
               ·
                intro w'
                go_simp
                with_reducible rfl
               rotate_left
               ·
                simp only [Act.put, s1_, s2_, s3_, i64_w, i32_w]
                rfl
               refine pure_ (i := 3) (N := some 46) (v := ?_) (a' := ?_) #[true, true, true, true, false, false, false, false, false, false, false] rfl rfl (any_of HT_.out (by kernel_rfl)) (fun _ _ _ h => h) (Or.inl ⟨by rfl, ?_⟩) ?_ ?_
               rotate_left
               ·
                intro w'
                go_simp
                with_reducible rfl
               rotate_left
               ·
                simp only [Act.put, s1_, s2_, s3_, i64_w, i32_w]
                rfl
               refine pure_ (i := 5) (N := some 48) (v := ?_) (a' := ?_) #[true, true, true, true, false, true, false, false, false, false, false] rfl rfl (any_of HT_.out (by kernel_rfl)) (fun _ _ _ h => h) (Or.inl ⟨by rfl, ?_⟩) ?_ ?_
               rotate_left
               ·
                intro w'
                go_simp
                with_reducible rfl
               rotate_left
               ·
                simp only [Act.put, s1_, s2_, s3_, i64_w, i32_w]
                rfl
               refine pure_ (i := 6) (N := some 49) (v := ?_) (a' := ?_) #[true, true, true, true, false, true, true, false, false, false, false] rfl rfl (any_of HT_.out (by kernel_rfl)) (fun _ _ _ h => h) (Or.inl ⟨by rfl, ?_⟩) ?_ ?_
               rotate_left
               ·
                intro w'
                go_simp
                with_reducible rfl
               rotate_left
               ·
                simp only [Act.put, s1_, s2_, s3_, i64_w, i32_w]
                rfl
               refine pure_ (i := 7) (N := some 50) (v := ?_) (a' := ?_) #[true, true, true, true, false, true, true, true, false, false, false] rfl rfl (any_of HT_.out (by kernel_rfl)) (fun _ _ _ h => h) (Or.inl ⟨by rfl, ?_⟩) ?_ ?_
               rotate_left
               ·
                intro w'
                go_simp
                with_reducible rfl
               rotate_left
               ·
                simp only [Act.put, s1_, s2_, s3_, i64_w, i32_w]
                rfl
               refine take_ (i := 4) (N := some 47) (v := ?_) (a' := ?_) #[true, true, true, true, true, true, true, true, false, false, false] rfl rfl (take_ofW HT_.out HW_.out (by kernel_rfl)) (fun _ _ _ h => h) (Or.inl ⟨by rfl, ?_⟩) hHeld ?_ ?_
               rotate_left
               ·
                intro w' s0
                go_simp
                with_reducible rfl
               rotate_left
               ·
                simp only [Act.put, s1_, s2_, s3_, i64_w, i32_w]
                rfl
               refine pure_ (i := 8) (N := some 51) (v := ?_) (a' := ?_) #[true, true, true, true, true, true, true, true, true, false, false] rfl rfl (any_of HT_.out (by kernel_rfl)) (fun _ _ _ h => h) (Or.inl ⟨by rfl, ?_⟩) ?_ ?_
               rotate_left
               ·
                intro w'
                go_simp
                with_reducible rfl
               rotate_left
               ·
                simp only [Act.put, s1_, s2_, s3_, i64_w, i32_w]
                rfl
               refine pure_ (i := 9) (N := some 52) (v := ?_) (a' := ?_) #[true, true, true, true, true, true, true, true, true, true, false] rfl rfl (any_of HT_.out (by kernel_rfl)) (fun _ _ _ h => h) (Or.inl ⟨by rfl, ?_⟩) ?_ ?_
               rotate_left
               ·
                intro w'
                go_simp
                with_reducible rfl
               rotate_left
               ·
                simp only [Act.put, s1_, s2_, s3_, i64_w, i32_w]
                rfl
               refine last_ (i := 10) (N := none) #[true, true, true, true, true, true, true, true, true, true, true] rfl rfl (one_of HT_.out (by kernel_rfl)) (by decide) (fun K hK => ?_)
               refine skip_ (w1 := ?_) (by rfl) rfl ?_ ?_
               rotate_left
               ·
                go_simp
                rfl
               refine hK.out _ _ ?_
               clear hK K
               refine done_ (done_of HT_.out (by kernel_rfl)) ?_
               try go_wp2
               go_roundg kj14
               case measure => have := HK1.out; have := HJ14.out; omega
               case rel => exact ⟨(y219), (t215), (wrap64 (x6_1 - 1)), (by first | rfl | (simp; done) | (simp [*]; done)), H', ⟨by have := HK1.out; have := HJ14.out; omega⟩, ⟨by (with_reducible repeat (first | apply r1_ | apply r2_ | apply r3_)); exact Kd.R_mono HQ42.out (fun _ hk => hk.1)⟩, ⟨by (with_reducible repeat (first | apply v1_ | apply v2_ | apply v3_)); exact v4_ (v5_ (p := ⟨go35, ((ji9) : Int).toNat, none⟩) (v4_ HO217.out (fun k_ hk => (⟨hk, fun e_ => hk.2.1 (by rw [e_]; rfl)⟩ : _ ∧ k_ ≠ go35))) (fun _ hk => hk.2) (.int .u32 (Go.bits .or .u32 (rd x4_1 (ji9)) (ji34)))) (fun _ hk => ⟨hk.1.1, hk.1.2.1⟩)⟩, ⟨by repeat (first | (with_reducible first | exact HB.out | apply b1_ | apply b2_ | apply b3_ | refine b4_ ?_ GB35.out) | exact HB.out)⟩⟩
              ·
               rw [if_neg c33] at H
               exact absurd H (by simp)
             ·
              rw [if_neg c31] at H
              exact absurd H (by simp)
            ·
             rw [if_neg c30] at H
             exact absurd H (by simp)
           ·
            rw [if_neg c27] at H
            have c27b0 : decide (0 ≤ t214) = false := d3_ c27
            clear c27
            have H' := a0_ H
            clear H
            obtain ⟨Ao43, co43, eo43⟩ := Kd.R_slice HO_5.out
            subst eo43
            go_wp2_with (first | ((with_reducible refine gate_callee (f := 19) rfl ?_); refine goesL_ (some 35) rfl rfl Tryd.func19 (by kernel_rfl) rfl #[.slice Ao43 x5_14.length co43] rfl (by (try simp only [List.map_toArray, List.map_cons, List.map_nil]); first | done | rfl | (simp only [List.length_drop, List.length_take]; rfl)) ?_; (with_reducible refine (spec_trim.calls kj14 (fun k_ => some k_ = (.slice Ao43 x5_14.length co43 : Value).ownBlock) _ _ x5_14 t211 _ ?side1 A25.out).mono ?_); (case side1 => exact Kd.R_V (Kd.R_tight rfl (HO_5.out))); rintro e w44 ⟨v212, rfl, ho0, hb⟩; refine ⟨_, rfl, ?_⟩; have n0_ := a0_ (Kd.R_below (by (with_reducible repeat (first | apply r1_ | apply r2_ | apply r3_)); exact HO_4.out) hb); have n1_ := a0_ (Kd.R_below (by (with_reducible repeat (first | apply r1_ | apply r2_ | apply r3_)); exact HO_5.out) hb); have n2_ := a0_ (Kd.V_lower (v4_ (ok' := fun k_ => (w.heap.size ≤ k_) ∧ some k_ ≠ (v196 : Value).ownBlock) ho0 (fun k_ hk_ => ⟨Or.elim hk_ (fun hs_ => ((HO_5.out).1 k_ hs_.symm).1) (fun hn_ => (Nat.le_trans (below_size (by repeat (first | (with_reducible first | exact HB.out | apply b1_ | apply b2_ | apply b3_) | exact HB.out))) hn_)), Or.elim hk_ (fun hs_ => ((HO_5.out).1 k_ hs_.symm).2) (fun hn_ => (Kd.fresh' (Kd.R_lt (by (with_reducible repeat (first | apply r1_ | apply r2_ | apply r3_)); exact HO_4.out)) k_ hn_))⟩)) (below_size (by repeat (first | (with_reducible first | exact HB.out | apply b1_ | apply b2_ | apply b3_) | exact HB.out)))); have n3_ := a0_ (below_step (by repeat (first | (with_reducible first | exact HB.out | apply b1_ | apply b2_ | apply b3_) | exact HB.out)) hb); clear HO_4; clear HO_5; clear HB; have HO_4 := n0_; have HO_5 := n1_; have HO213 := n2_; have HB := n3_; clear n0_ n1_ n2_ n3_; (try clear hb); (try clear hb2); (try clear hk); (try clear hi); (try clear ho0); obtain ⟨Ao45, co45, eo45⟩ := Kd.V_slice HO213.out; subst eo45) | ((with_reducible refine gate_callee (f := 21) rfl ?_); refine goesL_ (some 38) rfl rfl Tryd.func21 (by kernel_rfl) rfl #[.slice Ao45 t211.length co45, .slice A1 l1.length c1] rfl (by (try simp only [List.map_toArray, List.map_cons, List.map_nil]); first | done | rfl | (simp only [List.length_drop, List.length_take]; rfl)) ?_; (with_reducible refine (spec_magCmp.calls kj14 _ _ t211 _ _ l1 t214 _ ?side1 ?side2 ?side3 ?side4 A26.out).mono ?_); (case side1 => repeat (first | exact (Kd.V_reads' HO213.out).2.2 | (with_reducible refine Kd.C_alloc ?_ _) | (with_reducible refine Kd.C_drewN ?_ _) | (with_reducible refine Kd.C_drew ?_))); (case side2 => exact (Kd.V_reads' HO213.out).2.1); (case side3 => repeat (first | exact (Kd.C_below HR1.out HB.out) | (with_reducible refine Kd.C_alloc ?_ _) | (with_reducible refine Kd.C_drewN ?_ _) | (with_reducible refine Kd.C_drew ?_))); (case side4 => exact HC1.out); rintro e w' ⟨rfl, ⟨nd, rfl⟩⟩; refine ⟨_, rfl, ?_⟩))
            go_roundg kj14
            case measure => have := HK1.out; have := HJ14.out; omega
            case rel => exact ⟨(x4_1), (t211), (wrap64 (x6_1 - 1)), (by first | rfl | (simp; done) | (simp [*]; done)), H', ⟨by have := HK1.out; have := HJ14.out; omega⟩, ⟨by (with_reducible repeat (first | apply r1_ | apply r2_ | apply r3_)); exact Kd.R_mono HO_4.out (fun _ hk => hk.1)⟩, ⟨by (with_reducible repeat (first | apply v1_ | apply v2_ | apply v3_)); exact HO213.out⟩, ⟨by repeat (first | (with_reducible first | exact HB.out | apply b1_ | apply b2_ | apply b3_) | exact HB.out)⟩⟩
        ·
         rw [if_neg c13] at H
         exact absurd H (by simp)
       ·
        rw [if_neg c11] at H
        exact absurd H (by simp)
      ·
       rw [if_neg c10] at H
       exact absurd H (by simp)
     ·
      rw [if_neg c7] at H
      have c7b0 : decide (0 ≤ x6_1) = false := d3_ c7
      clear c7
      replace H := Option.bind_eq_some_iff.mp H
      obtain ⟨t198, A460, H⟩ := H
      replace H : (some (t198, x5_1)) = some (r1, r2) := H
      have A46 := a0_ A460
      clear A460
      simp only [Option.some.injEq, Prod.mk.injEq] at H
      obtain ⟨rfl, rfl⟩ := H
      obtain ⟨Ao47, co47, eo47⟩ := Kd.R_slice HO_4.out
      subst eo47
      go_wp2_with (first | ((with_reducible refine gate_callee (f := 19) rfl ?_); refine goesL_ (some 54) rfl rfl Tryd.func19 (by kernel_rfl) rfl #[.slice Ao47 x4_1.length co47] rfl (by (try simp only [List.map_toArray, List.map_cons, List.map_nil]); first | done | rfl | (simp only [List.length_drop, List.length_take]; rfl)) ?_; (with_reducible refine (spec_trim.calls k1 (fun k_ => some k_ = (.slice Ao47 x4_1.length co47 : Value).ownBlock) _ _ x4_1 t198 _ ?side1 A46.out).mono ?_); (case side1 => exact Kd.R_V (Kd.R_tight rfl (HO_4.out))); rintro e w48 ⟨v199, rfl, ho0, hb⟩; refine ⟨_, rfl, ?_⟩; have n0_ := a0_ (Kd.R_below (by (with_reducible repeat (first | apply r1_ | apply r2_ | apply r3_)); exact HO_4.out) hb); have n1_ := a0_ (Kd.V_below (by (with_reducible repeat (first | apply v1_ | apply v2_ | apply v3_)); exact HO_5.out) hb); have n2_ := a0_ (Kd.V_lower (v4_ (ok' := fun k_ => (w.heap.size ≤ k_)) ho0 (fun k_ hk_ => Or.elim hk_ (fun hs_ => ((HO_4.out).1 k_ hs_.symm)) (fun hn_ => (Nat.le_trans (below_size (by repeat (first | (with_reducible first | exact HB.out | apply b1_ | apply b2_ | apply b3_) | exact HB.out))) hn_)))) (below_size (by repeat (first | (with_reducible first | exact HB.out | apply b1_ | apply b2_ | apply b3_) | exact HB.out)))); have n3_ := a0_ (below_step (by repeat (first | (with_reducible first | exact HB.out | apply b1_ | apply b2_ | apply b3_) | exact HB.out)) hb); clear HO_4; clear HO_5; clear HB; have HO_4 := n0_; have HO_5 := n1_; have HO200 := n2_; have HB := n3_; clear n0_ n1_ n2_ n3_; (try clear hb); (try clear hb2); (try clear hk); (try clear hi); (try clear ho0)))
      go_ret2
      exact ⟨_, _, by first | rfl | (simp [e1_, e2_] <;> rfl) | (simp [*, e1_, e2_] <;> rfl), by (with_reducible repeat (first | apply v1_ | apply v2_ | apply v3_)); exact HO200.out, by (with_reducible repeat (first | apply v1_ | apply v2_ | apply v3_)); exact v4_ HO_5.out (fun _ hk => hk.1), by repeat (first | (with_reducible first | exact HB.out | apply b1_ | apply b2_ | apply b3_) | exact HB.out)⟩
  ·
   rw [if_neg c4] at H
   exact absurd H (by simp)
 ·
  rw [if_neg c3] at H
  exact absurd H (by simp)

/-! ### spec_WideMul: function 6 -/
def spec_WideMul.f (k : Nat) (a0_0 : Bool) (l0_1 : List Int) (a1_0 : Bool) (l1_1 : List Int) : Option (Bool × List Int) := (spec_magMul.f k l0_1 l1_1).bind fun t140 => ((spec_wide.f k (a0_0 != a1_0) t140).bind fun bt143 => (some (bt143.1, bt143.2)))
def spec_WideMul.T1 : Bool × List (List Nat × List Nat) := (true, [([], []), ([0], [0]), ([], []), ([2], [2]), ([1, 3], [1, 3]), ([], []), ([5], [5]), ([], []), ([7], [7]), ([6, 8], [6, 8]), ([4, 9, 9], [4, 9]), ([10, 10, 0, 1, 2, 3, 4, 5, 6, 7, 8, 9, 10], [10])])
def spec_WideMul.B1 : List Nat := [0, 1, 0, 4, 15, 0, 32, 0, 128, 480, 1023, 2047]
theorem spec_WideMul.tab1 : rtab .any (opsOf Tryd.f6 1) = spec_WideMul.T1 := by kernel_rfl
theorem spec_WideMul.bits1 : waitsOk spec_WideMul.T1.2 spec_WideMul.B1 = true := by kernel_rfl
set_option maxHeartbeats 8000000 in
set_option maxRecDepth 100000 in
theorem spec_WideMul.calls (k : Nat) (a0_0 : Bool) (A0_1 : Option Addr) (c0_1 : Nat) (l0_1 : List Int) (a1_0 : Bool) (A1_1 : Option Addr) (c1_1 : Nat) (l1_1 : List Int) (r1 : Bool) (r2 : List Int) (w : World) (hr0_1 : Kd.C (Kd.int .u32) w A0_1 l0_1.length l0_1) (hc0_1 : l0_1.length ≤ c0_1) (hr1_1 : Kd.C (Kd.int .u32) w A1_1 l1_1.length l1_1) (hc1_1 : l1_1.length ≤ c1_1) (h : spec_WideMul.f k a0_0 l0_1 a1_0 l1_1 = some (r1, r2)) :
  Calls Tryd.prog 6 #[.agg #[.bool a0_0, .slice A0_1 l0_1.length c0_1], .agg #[.bool a1_0, .slice A1_1 l1_1.length c1_1]] w fun e w' => ∃ v1_ : Value, e = .returned (.agg #[.bool r1, v1_]) ∧ Kd.V (Kd.int .u32) 40 w' w.heap.size (fun k_ => (w.heap.size ≤ k_)) v1_ r2 ∧ Below w.heap.size w w' := by
 have hu26 := Tryd.underlying26
 have HR0_1 := a0_ hr0_1
 have HC0_1 := a0_ hc0_1
 clear hr0_1 hc0_1
 have HR1_1 := a0_ hr1_1
 have HC1_1 := a0_ hc1_1
 clear hr1_1 hc1_1
 have HB := a0_ (Below.refl w.heap.size w)
 have H : ((spec_magMul.f k l0_1 l1_1).bind fun t140 => ((spec_wide.f k (a0_0 != a1_0) t140).bind fun bt143 => (some (bt143.1, bt143.2)))) = some (r1, r2) := h
 clear h
 replace H := Option.bind_eq_some_iff.mp H
 obtain ⟨t140, A30, H⟩ := H
 replace H : ((spec_wide.f k (a0_0 != a1_0) t140).bind fun bt143 => (some (bt143.1, bt143.2))) = some (r1, r2) := H
 have A3 := a0_ A30
 clear A30
 replace H := Option.bind_eq_some_iff.mp H
 obtain ⟨⟨t143, t144⟩, A40, H⟩ := H
 replace H : (some (t143, t144)) = some (r1, r2) := H
 have A4 := a0_ A40
 clear A40
 simp only [Option.some.injEq, Prod.mk.injEq] at H
 obtain ⟨rfl, rfl⟩ := H
 go_enter Tryd.func6, Tryd.ntmps6
 try go_wp2_with (first | ((with_reducible refine gate_dst (N := 2) rfl ?_); refine box_event ?hg (N := 2) ?hd (cs := #[.bool a0_0, .slice A0_1 l0_1.length c0_1]) (t := 26) ?hr ?_; (case hd => rfl); (case hg => rfl); (case hr => first | (go_simp; done) | (go_simp; rfl)); intro gb137 hg w5 hbox hb; have n0_ := a0_ (below_step (by repeat (first | (with_reducible first | exact HB.out | apply b1_ | apply b2_ | apply b3_) | exact HB.out)) hb); have n1_ := a0_ (hbox); have n2_ := a0_ ((by rw [hg]; exact (below_size (by repeat (first | (with_reducible first | exact HB.out | apply b1_ | apply b2_ | apply b3_) | exact HB.out))) : w.heap.size ≤ gb137)); have n3_ := a0_ ((by rw [hg]; exact (below_size (by repeat (first | (with_reducible first | exact HB.out | apply b1_ | apply b2_ | apply b3_) | exact HB.out))) : w.heap.size ≤ gb137)); clear HB; have HB := n0_; have BK137 := n1_; have GW137 := n2_; have GE137 := n3_; clear n0_ n1_ n2_ n3_; clear hb hbox hg) | ((with_reducible refine gate_dst (N := 3) rfl ?_); refine box_event ?hg (N := 3) ?hd (cs := #[.bool a1_0, .slice A1_1 l1_1.length c1_1]) (t := 26) ?hr ?_; (case hd => rfl); (case hg => rfl); (case hr => first | (go_simp; done) | (go_simp; rfl)); intro gb138 hg w6 hbox hb; have n0_ := a0_ (blk_below (g := gb137) (o := .cells #[.bool a0_0, .slice A0_1 l0_1.length c0_1] 26 (0, 0)) (by (with_reducible repeat (first | refine k1_ ?_ _ | refine k2_ ?_ | refine k3_ ?_ _)); exact BK137.out) hb); have n1_ := a0_ (below_step (by repeat (first | (with_reducible first | exact HB.out | apply b1_ | apply b2_ | apply b3_ | refine b4_ ?_ GE137.out) | exact HB.out)) hb); have n2_ := a0_ (hbox); have n3_ := a0_ ((by rw [hg]; exact (below_size (by repeat (first | (with_reducible first | exact HB.out | apply b1_ | apply b2_ | apply b3_ | refine b4_ ?_ GE137.out) | exact HB.out))) : w.heap.size ≤ gb138)); have n4_ := a0_ ((by rw [hg]; exact (below_size (by repeat (first | (with_reducible first | exact HB.out | apply b1_ | apply b2_ | apply b3_ | refine b4_ ?_ GE137.out) | exact HB.out))) : w.heap.size ≤ gb138)); have n5_ := a0_ ((by rw [hg]; exact Nat.ne_of_lt (blk_lt (g := gb137) (o := .cells #[.bool a0_0, .slice A0_1 l0_1.length c0_1] 26 (0, 0)) (by (with_reducible repeat (first | refine k1_ ?_ _ | refine k2_ ?_ | refine k3_ ?_ _)); exact BK137.out)) : gb137 ≠ gb138)); have n6_ := a0_ ((by rw [hg]; exact Nat.ne_of_gt (blk_lt (g := gb137) (o := .cells #[.bool a0_0, .slice A0_1 l0_1.length c0_1] 26 (0, 0)) (by (with_reducible repeat (first | refine k1_ ?_ _ | refine k2_ ?_ | refine k3_ ?_ _)); exact BK137.out)) : gb138 ≠ gb137)); clear BK137; clear HB; have BK137 := n0_; have HB := n1_; have BK138 := n2_; have GW138 := n3_; have GE138 := n4_; have NB137_138 := n5_; have NB138_137 := n6_; clear n0_ n1_ n2_ n3_ n4_ n5_ n6_; clear hb hbox hg) | ((with_reducible refine gate_dst (N := 4) rfl ?_); refine box_event ?hg (N := 4) ?hd (cs := #[.bool false, .slice none 0 0]) (t := 26) ?hr ?_; (case hd => rfl); (case hg => rfl); (case hr => first | (go_simp; done) | (go_simp; rfl)); intro gb139 hg w7 hbox hb; have n0_ := a0_ (blk_below (g := gb137) (o := .cells #[.bool a0_0, .slice A0_1 l0_1.length c0_1] 26 (0, 0)) (by (with_reducible repeat (first | refine k1_ ?_ _ | refine k2_ ?_ | refine k3_ ?_ _)); exact BK137.out) hb); have n1_ := a0_ (blk_below (g := gb138) (o := .cells #[.bool a1_0, .slice A1_1 l1_1.length c1_1] 26 (0, 0)) (by (with_reducible repeat (first | refine k1_ ?_ _ | refine k2_ ?_ | refine k3_ ?_ _)); exact BK138.out) hb); have n2_ := a0_ (below_step (by repeat (first | (with_reducible first | exact HB.out | apply b1_ | apply b2_ | apply b3_ | refine b4_ ?_ GE137.out | refine b4_ ?_ GE138.out) | exact HB.out)) hb); have n3_ := a0_ (hbox); have n4_ := a0_ ((by rw [hg]; exact (below_size (by repeat (first | (with_reducible first | exact HB.out | apply b1_ | apply b2_ | apply b3_ | refine b4_ ?_ GE137.out | refine b4_ ?_ GE138.out) | exact HB.out))) : w.heap.size ≤ gb139)); have n5_ := a0_ ((by rw [hg]; exact (below_size (by repeat (first | (with_reducible first | exact HB.out | apply b1_ | apply b2_ | apply b3_ | refine b4_ ?_ GE137.out | refine b4_ ?_ GE138.out) | exact HB.out))) : w.heap.size ≤ gb139)); have n6_ := a0_ ((by rw [hg]; exact Nat.ne_of_lt (blk_lt (g := gb137) (o := .cells #[.bool a0_0, .slice A0_1 l0_1.length c0_1] 26 (0, 0)) (by (with_reducible repeat (first | refine k1_ ?_ _ | refine k2_ ?_ | refine k3_ ?_ _)); exact BK137.out)) : gb137 ≠ gb139)); have n7_ := a0_ ((by rw [hg]; exact Nat.ne_of_gt (blk_lt (g := gb137) (o := .cells #[.bool a0_0, .slice A0_1 l0_1.length c0_1] 26 (0, 0)) (by (with_reducible repeat (first | refine k1_ ?_ _ | refine k2_ ?_ | refine k3_ ?_ _)); exact BK137.out)) : gb139 ≠ gb137)); have n8_ := a0_ ((by rw [hg]; exact Nat.ne_of_lt (blk_lt (g := gb138) (o := .cells #[.bool a1_0, .slice A1_1 l1_1.length c1_1] 26 (0, 0)) (by (with_reducible repeat (first | refine k1_ ?_ _ | refine k2_ ?_ | refine k3_ ?_ _)); exact BK138.out)) : gb138 ≠ gb139)); have n9_ := a0_ ((by rw [hg]; exact Nat.ne_of_gt (blk_lt (g := gb138) (o := .cells #[.bool a1_0, .slice A1_1 l1_1.length c1_1] 26 (0, 0)) (by (with_reducible repeat (first | refine k1_ ?_ _ | refine k2_ ?_ | refine k3_ ?_ _)); exact BK138.out)) : gb139 ≠ gb138)); clear BK137; clear BK138; clear HB; have BK137 := n0_; have BK138 := n1_; have HB := n2_; have BK139 := n3_; have GW139 := n4_; have GE139 := n5_; have NB137_139 := n6_; have NB139_137 := n7_; have NB138_139 := n8_; have NB139_138 := n9_; clear n0_ n1_ n2_ n3_ n4_ n5_ n6_ n7_ n8_ n9_; clear hb hbox hg))
 have n0_ := a0_ (k2_ BK137.out)
 have n1_ := a0_ (k2_ BK138.out)
 have n2_ := a0_ (k2_ BK139.out)
 have n3_ := a0_ (b3_ HB.out)
 clear BK137
 clear BK138
 clear BK139
 clear HB
 have BK137 := n0_
 have BK138 := n1_
 have BK139 := n2_
 have HB := n3_
 clear n0_ n1_ n2_ n3_
 refine start_ (n := 12) (S := fun w' => w'.cell? ⟨gb137, 0, none⟩ = some (.bool a0_0) ∧ w'.cell? ⟨gb137, 1, none⟩ = some (.slice A0_1 l0_1.length c0_1) ∧ w'.cell? ⟨gb138, 0, none⟩ = some (.bool a1_0) ∧ w'.cell? ⟨gb138, 1, none⟩ = some (.slice A1_1 l1_1.length c1_1)) (ds := []) #[false, false, false, false, false, false, false, false, false, false, false, false] (by kernel_rfl) rfl rfl ⟨(blk_cell BK137.out 0).trans rfl, (blk_cell BK137.out 1).trans rfl, (blk_cell BK138.out 0).trans rfl, (blk_cell BK138.out 1).trans rfl⟩ (fun hHeld => ?_); refine with_tabW spec_WideMul.tab1 spec_WideMul.bits1 (fun HT_ HW_ => ?_)
 generalize w7.drew = w8 at BK137 BK138 BK139 HB hHeld ⊢
 refine pure_ (i := 0) (N := some 5) (v := ?_) (a' := ?_) #[true, false, false, false, false, false, false, false, false, false, false, false] rfl rfl (any_of HT_.out (by kernel_rfl)) (fun _ _ _ h => h) (Or.inl ⟨by rfl, ?_⟩) ?_ ?_
 rotate_left
 ·
  intro w'
  go_simp
  with_reducible rfl
 rotate_left
 ·
  simp only [Act.put, s1_, s2_, s3_, i64_w, i32_w]
  rfl
 refine pure_ (i := 2) (N := some 7) (v := ?_) (a' := ?_) #[true, false, true, false, false, false, false, false, false, false, false, false] rfl rfl (any_of HT_.out (by kernel_rfl)) (fun _ _ _ h => h) (Or.inl ⟨by rfl, ?_⟩) ?_ ?_
 rotate_left
 ·
  intro w'
  go_simp
  with_reducible rfl
 rotate_left
 ·
  simp only [Act.put, s1_, s2_, s3_, i64_w, i32_w]
  rfl
 refine pure_ (i := 5) (N := some 10) (v := ?_) (a' := ?_) #[true, false, true, false, false, true, false, false, false, false, false, false] rfl rfl (any_of HT_.out (by kernel_rfl)) (fun _ _ _ h => h) (Or.inl ⟨by rfl, ?_⟩) ?_ ?_
 rotate_left
 ·
  intro w'
  go_simp
  with_reducible rfl
 rotate_left
 ·
  simp only [Act.put, s1_, s2_, s3_, i64_w, i32_w]
  rfl
 refine pure_ (i := 7) (N := some 12) (v := ?_) (a' := ?_) #[true, false, true, false, false, true, false, true, false, false, false, false] rfl rfl (any_of HT_.out (by kernel_rfl)) (fun _ _ _ h => h) (Or.inl ⟨by rfl, ?_⟩) ?_ ?_
 rotate_left
 ·
  intro w'
  go_simp
  with_reducible rfl
 rotate_left
 ·
  simp only [Act.put, s1_, s2_, s3_, i64_w, i32_w]
  rfl
 refine take_ (i := 1) (N := some 6) (v := ?_) (a' := ?_) #[true, true, true, false, false, true, false, true, false, false, false, false] rfl rfl (take_ofW HT_.out HW_.out (by kernel_rfl)) (fun _ _ _ h => h) (Or.inl ⟨by rfl, ?_⟩) hHeld ?_ ?_
 rotate_left
 ·
  rintro w' ⟨s0, s1, s2, s3⟩
  go_simp
  with_reducible rfl
 rotate_left
 ·
  simp only [Act.put, s1_, s2_, s3_, i64_w, i32_w]
  rfl
 refine take_ (i := 3) (N := some 8) (v := ?_) (a' := ?_) #[true, true, true, true, false, true, false, true, false, false, false, false] rfl rfl (take_ofW HT_.out HW_.out (by kernel_rfl)) (fun _ _ _ h => h) (Or.inl ⟨by rfl, ?_⟩) hHeld ?_ ?_
 rotate_left
 ·
  rintro w' ⟨s0, s1, s2, s3⟩
  go_simp
  with_reducible rfl
 rotate_left
 ·
  simp only [Act.put, s1_, s2_, s3_, i64_w, i32_w]
  rfl
 refine pure_ (i := 4) (N := some 9) (v := ?_) (a' := ?_) #[true, true, true, true, true, true, false, true, false, false, false, false] rfl rfl (any_of HT_.out (by kernel_rfl)) (fun _ _ _ h => h) (Or.inl ⟨by rfl, ?_⟩) ?_ ?_
 rotate_left
 ·
  intro w'
  go_simp
  with_reducible rfl
 rotate_left
 ·
  simp only [Act.put, s1_, s2_, s3_, i64_w, i32_w]
  rfl
 refine take_ (i := 6) (N := some 11) (v := ?_) (a' := ?_) #[true, true, true, true, true, true, true, true, false, false, false, false] rfl rfl (take_ofW HT_.out HW_.out (by kernel_rfl)) (fun _ _ _ h => h) (Or.inl ⟨by rfl, ?_⟩) hHeld ?_ ?_
 rotate_left
 ·
  rintro w' ⟨s0, s1, s2, s3⟩
  go_simp
  with_reducible rfl
 rotate_left
 ·
  simp only [Act.put, s1_, s2_, s3_, i64_w, i32_w]
  rfl
 refine take_ (i := 8) (N := some 13) (v := ?_) (a' := ?_) #[true, true, true, true, true, true, true, true, true, false, false, false] rfl rfl (take_ofW HT_.out HW_.out (by kernel_rfl)) (fun _ _ _ h => h) (Or.inl ⟨by rfl, ?_⟩) hHeld ?_ ?_
 rotate_left
 ·
  rintro w' ⟨s0, s1, s2, s3⟩
  go_simp
  with_reducible rfl
 rotate_left
 ·
  simp only [Act.put, s1_, s2_, s3_, i64_w, i32_w]
  rfl
 refine one_ (i := 9) (N := some 14) #[true, true, true, true, true, true, true, true, true, true, false, false] rfl rfl (one_of HT_.out (by kernel_rfl)) (by decide) (fun K hK => ?_)
 refine goes_ Tryd.func13 (by kernel_rfl) rfl #[.slice A0_1 l0_1.length c0_1, .slice A1_1 l1_1.length c1_1] (by rfl) rfl rfl (by (try simp only [List.map_toArray, List.map_cons, List.map_nil]); first | done | rfl | (simp only [List.length_drop, List.length_take]; rfl)) ?_
 with_reducible refine (spec_magMul.calls k _ _ l0_1 _ _ l1_1 t140 _ ?side1 ?side2 ?side3 ?side4 A3.out).mono ?_
 (case side1 => repeat (first | exact (Kd.C_below HR0_1.out HB.out) | (with_reducible refine Kd.C_alloc ?_ _) | (with_reducible refine Kd.C_drewN ?_ _) | (with_reducible refine Kd.C_drew ?_)))
 (case side2 => exact HC0_1.out)
 (case side3 => repeat (first | exact (Kd.C_below HR1_1.out HB.out) | (with_reducible refine Kd.C_alloc ?_ _) | (with_reducible refine Kd.C_drewN ?_ _) | (with_reducible refine Kd.C_drew ?_)))
 (case side4 => exact HC1_1.out)
 rintro e w9 ⟨v141, rfl, ho0, hb⟩
 refine ⟨_, rfl, ?_⟩
 have n0_ := a0_ (Kd.V_lower (v4_ (ok' := fun k_ => (w.heap.size ≤ k_) ∧ k_ ≠ gb137 ∧ k_ ≠ gb138 ∧ k_ ≠ gb139) ho0 (fun k_ hk_ => ⟨(Nat.le_trans (below_size (by repeat (first | (with_reducible first | exact HB.out | apply b1_ | apply b2_ | apply b3_ | refine b4_ ?_ GE137.out | refine b4_ ?_ GE138.out | refine b4_ ?_ GE139.out) | exact HB.out))) hk_), (Kd.freshB (g := gb137) (o := .cells #[.bool a0_0, .slice A0_1 l0_1.length c0_1] 26 (0, 0)) (by (with_reducible repeat (first | refine k1_ ?_ _ | refine k2_ ?_ | refine k3_ ?_ _)); exact BK137.out) k_ hk_), (Kd.freshB (g := gb138) (o := .cells #[.bool a1_0, .slice A1_1 l1_1.length c1_1] 26 (0, 0)) (by (with_reducible repeat (first | refine k1_ ?_ _ | refine k2_ ?_ | refine k3_ ?_ _)); exact BK138.out) k_ hk_), (Kd.freshB (g := gb139) (o := .cells #[.bool false, .slice none 0 0] 26 (0, 0)) (by (with_reducible repeat (first | refine k1_ ?_ _ | refine k2_ ?_ | refine k3_ ?_ _)); exact BK139.out) k_ hk_)⟩)) (below_size (by repeat (first | (with_reducible first | exact HB.out | apply b1_ | apply b2_ | apply b3_ | refine b4_ ?_ GE137.out | refine b4_ ?_ GE138.out | refine b4_ ?_ GE139.out) | exact HB.out))))
 have n1_ := a0_ (blk_below (g := gb137) (o := .cells #[.bool a0_0, .slice A0_1 l0_1.length c0_1] 26 (0, 0)) (by (with_reducible repeat (first | refine k1_ ?_ _ | refine k2_ ?_ | refine k3_ ?_ _)); exact BK137.out) hb)
 have n2_ := a0_ (blk_below (g := gb138) (o := .cells #[.bool a1_0, .slice A1_1 l1_1.length c1_1] 26 (0, 0)) (by (with_reducible repeat (first | refine k1_ ?_ _ | refine k2_ ?_ | refine k3_ ?_ _)); exact BK138.out) hb)
 have n3_ := a0_ (blk_below (g := gb139) (o := .cells #[.bool false, .slice none 0 0] 26 (0, 0)) (by (with_reducible repeat (first | refine k1_ ?_ _ | refine k2_ ?_ | refine k3_ ?_ _)); exact BK139.out) hb)
 have n4_ := a0_ (below_step (by repeat (first | (with_reducible first | exact HB.out | apply b1_ | apply b2_ | apply b3_ | refine b4_ ?_ GE137.out | refine b4_ ?_ GE138.out | refine b4_ ?_ GE139.out) | exact HB.out)) hb)
 clear BK137
 clear BK138
 clear BK139
 clear HB
 have HO142 := n0_
 have BK137 := n1_
 have BK138 := n2_
 have BK139 := n3_
 have HB := n4_
 clear n0_ n1_ n2_ n3_ n4_
 (try clear hb)
 (try clear hb2)
 (try clear hk)
 (try clear hi)
 (try clear ho0)
 obtain ⟨Ao10, co10, eo10⟩ := Kd.V_slice HO142.out
 (first | subst eo10 | (injection eo10 with f1_ f2_ f3_; have f4_ := f1_.symm; have f5_ := f3_.symm; clear f1_ f2_ f3_; subst f4_; subst f5_))
 refine hK.out _ _ ⟨(blk_cell BK137.out 0).trans rfl, (blk_cell BK137.out 1).trans rfl, (blk_cell BK138.out 0).trans rfl, (blk_cell BK138.out 1).trans rfl⟩ (fun hHeld => ?_)
 clear hK K
 refine norm_ (a' := ?_) ?_ ?_
 rotate_left
 ·
  show Act.put _ (some 14) _ = _
  simp only [Act.put, s1_, s2_, s3_, i64_w, i32_w]
  rfl
 refine one_ (i := 10) (N := some 15) #[true, true, true, true, true, true, true, true, true, true, true, false] rfl rfl (one_of HT_.out (by kernel_rfl)) (by decide) (fun K hK => ?_)
 refine goes_ Tryd.func12 (by kernel_rfl) rfl #[.bool (a0_0 != a1_0), .slice Ao10 t140.length co10] (by rfl) rfl rfl (by (try simp only [List.map_toArray, List.map_cons, List.map_nil]); first | done | rfl | (simp only [List.length_drop, List.length_take]; rfl)) ?_
 with_reducible refine (spec_wide.calls k (a0_0 != a1_0) (fun k_ => ((w.heap.size ≤ k_) ∧ (k_ ≠ gb137 ∧ (k_ ≠ gb138 ∧ k_ ≠ gb139)))) _ _ t140 t143 t144 _ ?side1 A4.out).mono ?_
 (case side1 => exact HO142.out)
 rintro e w11 ⟨v145, rfl, ho0, hb⟩
 refine ⟨_, rfl, ?_⟩
 have n0_ := a0_ (Kd.V_below (by (with_reducible repeat (first | apply v1_ | apply v2_ | apply v3_)); exact HO142.out) hb)
 have n1_ := a0_ (Kd.V_lower (v4_ (ok' := fun k_ => (w.heap.size ≤ k_) ∧ k_ ≠ gb137 ∧ k_ ≠ gb138 ∧ k_ ≠ gb139) ho0 (fun k_ hk_ => ⟨Or.elim hk_ (fun hs_ => hs_.1) (fun hn_ => (Nat.le_trans (below_size (by repeat (first | (with_reducible first | exact HB.out | apply b1_ | apply b2_ | apply b3_ | refine b4_ ?_ GE137.out | refine b4_ ?_ GE138.out | refine b4_ ?_ GE139.out) | exact HB.out))) hn_)), Or.elim hk_ (fun hs_ => hs_.2.1) (fun hn_ => (Kd.freshB (g := gb137) (o := .cells #[.bool a0_0, .slice A0_1 l0_1.length c0_1] 26 (0, 0)) (by (with_reducible repeat (first | refine k1_ ?_ _ | refine k2_ ?_ | refine k3_ ?_ _)); exact BK137.out) k_ hn_)), Or.elim hk_ (fun hs_ => hs_.2.2.1) (fun hn_ => (Kd.freshB (g := gb138) (o := .cells #[.bool a1_0, .slice A1_1 l1_1.length c1_1] 26 (0, 0)) (by (with_reducible repeat (first | refine k1_ ?_ _ | refine k2_ ?_ | refine k3_ ?_ _)); exact BK138.out) k_ hn_)), Or.elim hk_ (fun hs_ => hs_.2.2.2) (fun hn_ => (Kd.freshB (g := gb139) (o := .cells #[.bool false, .slice none 0 0] 26 (0, 0)) (by (with_reducible repeat (first | refine k1_ ?_ _ | refine k2_ ?_ | refine k3_ ?_ _)); exact BK139.out) k_ hn_))⟩)) (below_size (by repeat (first | (with_reducible first | exact HB.out | apply b1_ | apply b2_ | apply b3_ | refine b4_ ?_ GE137.out | refine b4_ ?_ GE138.out | refine b4_ ?_ GE139.out) | exact HB.out))))
 have n2_ := a0_ (blk_below (g := gb137) (o := .cells #[.bool a0_0, .slice A0_1 l0_1.length c0_1] 26 (0, 0)) (by (with_reducible repeat (first | refine k1_ ?_ _ | refine k2_ ?_ | refine k3_ ?_ _)); exact BK137.out) hb)
 have n3_ := a0_ (blk_below (g := gb138) (o := .cells #[.bool a1_0, .slice A1_1 l1_1.length c1_1] 26 (0, 0)) (by (with_reducible repeat (first | refine k1_ ?_ _ | refine k2_ ?_ | refine k3_ ?_ _)); exact BK138.out) hb)
 have n4_ := a0_ (blk_below (g := gb139) (o := .cells #[.bool false, .slice none 0 0] 26 (0, 0)) (by (with_reducible repeat (first | refine k1_ ?_ _ | refine k2_ ?_ | refine k3_ ?_ _)); exact BK139.out) hb)
 have n5_ := a0_ (below_step (by repeat (first | (with_reducible first | exact HB.out | apply b1_ | apply b2_ | apply b3_ | refine b4_ ?_ GE137.out | refine b4_ ?_ GE138.out | refine b4_ ?_ GE139.out) | exact HB.out)) hb)
 clear HO142
 clear BK137
 clear BK138
 clear BK139
 clear HB
 have HO142 := n0_
 have HO146 := n1_
 have BK137 := n2_
 have BK138 := n3_
 have BK139 := n4_
 have HB := n5_
 clear n0_ n1_ n2_ n3_ n4_ n5_
 (try clear hb)
 (try clear hb2)
 (try clear hk)
 (try clear hi)
 (try clear ho0)
 obtain ⟨Ao13, co13, eo13⟩ := Kd.V_slice HO146.out
 (first | subst eo13 | (injection eo13 with f1_ f2_ f3_; have f4_ := f1_.symm; have f5_ := f3_.symm; clear f1_ f2_ f3_; subst f4_; subst f5_))
 refine hK.out _ _ ⟨(blk_cell BK137.out 0).trans rfl, (blk_cell BK137.out 1).trans rfl, (blk_cell BK138.out 0).trans rfl, (blk_cell BK138.out 1).trans rfl⟩ (fun hHeld => ?_)
 clear hK K
 refine norm_ (a' := ?_) ?_ ?_
 rotate_left
 ·
  show Act.put _ (some 15) _ = _
  simp only [Act.put, s1_, s2_, s3_, i64_w, i32_w]
  rfl
 refine one_ (i := 11) (N := none) #[true, true, true, true, true, true, true, true, true, true, true, true] rfl rfl (one_of HT_.out (by kernel_rfl)) (by decide) (fun K hK => ?_)
 have hs12 : w11.cell? ⟨gb139, 0, none⟩ = some (.bool false) := (blk_cell BK139.out 0).trans rfl
 have hfs12 := blk_frozen BK139.out 0
 have hns12_0 := NB137_139.out
 have hns12_1 := NB138_139.out
 have hms12_0 := NB139_137.out
 have hms12_1 := NB139_138.out
 have hs14 : w11.cell? ⟨gb139, 1, none⟩ = some (.slice none 0 0) := (blk_cell BK139.out 1).trans rfl
 have hfs14 := blk_frozen BK139.out 1
 have hns14_0 := NB137_139.out
 have hns14_1 := NB138_139.out
 have hms14_0 := NB139_137.out
 have hms14_1 := NB139_138.out
 refine skip_ (w1 := ?_) (by rfl) rfl ?_ ?_
 rotate_left
 ·
  go_simp
  rfl
 refine hK.out _ _ ⟨((cell_far (p := ⟨gb139, _, none⟩) NB137_139.out _).trans (((cell_far (p := ⟨gb139, _, none⟩) NB137_139.out _).trans (hHeld.1)))), ((cell_far (p := ⟨gb139, _, none⟩) NB137_139.out _).trans (((cell_far (p := ⟨gb139, _, none⟩) NB137_139.out _).trans (hHeld.2.1)))), ((cell_far (p := ⟨gb139, _, none⟩) NB138_139.out _).trans (((cell_far (p := ⟨gb139, _, none⟩) NB138_139.out _).trans (hHeld.2.2.1)))), ((cell_far (p := ⟨gb139, _, none⟩) NB138_139.out _).trans (((cell_far (p := ⟨gb139, _, none⟩) NB138_139.out _).trans (hHeld.2.2.2))))⟩ (fun hHeld => ?_)
 clear hK K
 refine done_ (done_of HT_.out (by kernel_rfl)) ?_
 try go_wp2
 refine bodyPost_ret (results_cell_row rfl _ _ gb139 26 #[.bool t143, .slice Ao13 t144.length co13] (0, 0) _ rfl (by (with_reducible repeat (first | refine k1_ ?_ _ | refine k2_ ?_ | refine k3_ ?_ _)); refine blk_put (cs := #[.bool t143, .slice none 0 0]) ?_ 1 _ rfl; (with_reducible repeat (first | refine k1_ ?_ _ | refine k2_ ?_ | refine k3_ ?_ _)); refine blk_put (cs := #[.bool false, .slice none 0 0]) ?_ 0 _ rfl; (with_reducible repeat (first | refine k1_ ?_ _ | refine k2_ ?_ | refine k3_ ?_ _)); exact BK139.out) Tryd.underlying26 rfl (by kernel_rfl)) rfl ?_
 exact ⟨_, by first | rfl | (simp [e1_, e2_] <;> rfl) | (simp [*, e1_, e2_] <;> rfl), by (with_reducible repeat (first | apply v1_ | apply v2_ | apply v3_)); exact v4_ (v5_ (p := ⟨gb139, 1, none⟩) (v5_ (p := ⟨gb139, 0, none⟩) (v4_ HO146.out (fun k_ hk => (⟨hk, hk.2.2.2⟩ : _ ∧ k_ ≠ gb139))) (fun _ hk => hk.2) (.bool t143)) (fun _ hk => hk.2) (.slice Ao13 t144.length co13)) (fun _ hk => hk.1.1), by repeat (first | (with_reducible first | exact HB.out | apply b1_ | apply b2_ | apply b3_ | refine b4_ ?_ GE137.out | refine b4_ ?_ GE138.out | refine b4_ ?_ GE139.out) | exact HB.out)⟩

/-! ### spec_Ten: function 7 -/
def spec_Ten.l0 : Nat → Int → Int → Bool → List Int → Option (Bool × List Int)
 | 0, _, _, _, _ => none
 | k + 1, x0, x4, x153000, x153001 => if x4 < x0 then ((spec_WideInt.f k 10).bind fun bt153 => ((spec_WideMul.f k x153000 x153001 bt153.1 bt153.2).bind fun bt157 => (spec_Ten.l0 k x0 (wrap64 (x4 + 1)) bt157.1 bt157.2))) else (some (x153000, x153001))
def spec_Ten.f (k : Nat) (a0 : Int) : Option (Bool × List Int) := (spec_WideInt.f k 1).bind fun bt148 => (spec_Ten.l0 k a0 0 bt148.1 bt148.2)
set_option maxHeartbeats 8000000 in
set_option maxRecDepth 100000 in
theorem spec_Ten.calls (k : Nat) (a0 : Int) (r1 : Bool) (r2 : List Int) (w : World) (h : spec_Ten.f k a0 = some (r1, r2)) :
  Calls Tryd.prog 7 #[.int .i64 a0] w fun e w' => ∃ v1_ : Value, e = .returned (.agg #[.bool r1, v1_]) ∧ Kd.V (Kd.int .u32) 40 w' w.heap.size (fun k_ => (w.heap.size ≤ k_)) v1_ r2 ∧ Below w.heap.size w w' := by
 have hu26 := Tryd.underlying26
 have HB := a0_ (Below.refl w.heap.size w)
 have H : ((spec_WideInt.f k 1).bind fun bt148 => (spec_Ten.l0 k a0 0 bt148.1 bt148.2)) = some (r1, r2) := h
 clear h
 replace H := Option.bind_eq_some_iff.mp H
 obtain ⟨⟨t148, t149⟩, A20, H⟩ := H
 replace H : (spec_Ten.l0 k a0 0 t148 t149) = some (r1, r2) := H
 have A2 := a0_ A20
 clear A20
 have H' := a0_ H
 clear H
 go_enter Tryd.func7, Tryd.ntmps7
 go_wp2_with (first | ((with_reducible refine gate_dst (N := 2) rfl ?_); refine box_event ?hg (N := 2) ?hd (cs := #[.bool false, .slice none 0 0]) (t := 26) ?hr ?_; (case hd => rfl); (case hg => rfl); (case hr => first | (go_simp; done) | (go_simp; rfl)); intro gb147 hg w3 hbox hb; have n0_ := a0_ (below_step (by repeat (first | (with_reducible first | exact HB.out | apply b1_ | apply b2_ | apply b3_) | exact HB.out)) hb); have n1_ := a0_ (hbox); have n2_ := a0_ ((by rw [hg]; exact (below_size (by repeat (first | (with_reducible first | exact HB.out | apply b1_ | apply b2_ | apply b3_) | exact HB.out))) : w.heap.size ≤ gb147)); have n3_ := a0_ ((by rw [hg]; exact (below_size (by repeat (first | (with_reducible first | exact HB.out | apply b1_ | apply b2_ | apply b3_) | exact HB.out))) : w.heap.size ≤ gb147)); clear HB; have HB := n0_; have BK147 := n1_; have GW147 := n2_; have GE147 := n3_; clear n0_ n1_ n2_ n3_; clear hb hbox hg) | ((with_reducible refine gate_callee (f := 5) rfl ?_); refine goesL_ (some 5) rfl rfl Tryd.func5 (by kernel_rfl) rfl #[.int .i64 1] rfl (by (try simp only [List.map_toArray, List.map_cons, List.map_nil]); first | done | rfl | (simp only [List.length_drop, List.length_take]; rfl)) ?_; (with_reducible refine (spec_WideInt.calls k 1 t148 t149 _ A2.out).mono ?_); rintro e w4 ⟨v150, rfl, ho0, hb⟩; refine ⟨_, rfl, ?_⟩; have n0_ := a0_ (Kd.V_lower (v4_ (ok' := fun k_ => (w.heap.size ≤ k_) ∧ k_ ≠ gb147) ho0 (fun k_ hk_ => ⟨(Nat.le_trans (below_size (by repeat (first | (with_reducible first | exact HB.out | apply b1_ | apply b2_ | apply b3_ | refine b4_ ?_ GE147.out) | exact HB.out))) hk_), (Kd.freshB (g := gb147) (o := .cells #[.bool false, .slice none 0 0] 26 (0, 0)) (by (with_reducible repeat (first | refine k1_ ?_ _ | refine k2_ ?_ | refine k3_ ?_ _)); exact BK147.out) k_ hk_)⟩)) (below_size (by repeat (first | (with_reducible first | exact HB.out | apply b1_ | apply b2_ | apply b3_ | refine b4_ ?_ GE147.out) | exact HB.out)))); have n1_ := a0_ (blk_below (g := gb147) (o := .cells #[.bool false, .slice none 0 0] 26 (0, 0)) (by (with_reducible repeat (first | refine k1_ ?_ _ | refine k2_ ?_ | refine k3_ ?_ _)); exact BK147.out) hb); have n2_ := a0_ (below_step (by repeat (first | (with_reducible first | exact HB.out | apply b1_ | apply b2_ | apply b3_ | refine b4_ ?_ GE147.out) | exact HB.out)) hb); clear BK147; clear HB; have HO151 := n0_; have BK147 := n1_; have HB := n2_; clear n0_ n1_ n2_; (try clear hb); (try clear hb2); (try clear hk); (try clear hi); (try clear ho0)) | ((with_reducible refine gate_dst (N := 3) rfl ?_); refine box_event ?hg (N := 3) ?hd (cs := #[.bool false, .slice none 0 0]) (t := 26) ?hr ?_; (case hd => rfl); (case hg => rfl); (case hr => first | (go_simp; done) | (go_simp; rfl)); intro gb152 hg w5 hbox hb; have n0_ := a0_ (Kd.V_below (Kd.V_elderB (by (with_reducible repeat (first | apply v1_ | apply v2_ | apply v3_)); exact HO151.out) gb152 (Nat.le_of_eq hg.symm)) hb); have n1_ := a0_ (blk_below (g := gb147) (o := .cells #[.bool false, .slice none 0 0] 26 (0, 0)) (by (with_reducible repeat (first | refine k1_ ?_ _ | refine k2_ ?_ | refine k3_ ?_ _)); exact BK147.out) hb); have n2_ := a0_ (below_step (by repeat (first | (with_reducible first | exact HB.out | apply b1_ | apply b2_ | apply b3_ | refine b4_ ?_ GE147.out) | exact HB.out)) hb); have n3_ := a0_ (hbox); have n4_ := a0_ ((by rw [hg]; exact (below_size (by repeat (first | (with_reducible first | exact HB.out | apply b1_ | apply b2_ | apply b3_ | refine b4_ ?_ GE147.out) | exact HB.out))) : w.heap.size ≤ gb152)); have n5_ := a0_ ((by rw [hg]; exact (below_size (by repeat (first | (with_reducible first | exact HB.out | apply b1_ | apply b2_ | apply b3_ | refine b4_ ?_ GE147.out) | exact HB.out))) : w.heap.size ≤ gb152)); have n6_ := a0_ ((by rw [hg]; exact Nat.ne_of_lt (blk_lt (g := gb147) (o := .cells #[.bool false, .slice none 0 0] 26 (0, 0)) (by (with_reducible repeat (first | refine k1_ ?_ _ | refine k2_ ?_ | refine k3_ ?_ _)); exact BK147.out)) : gb147 ≠ gb152)); have n7_ := a0_ ((by rw [hg]; exact Nat.ne_of_gt (blk_lt (g := gb147) (o := .cells #[.bool false, .slice none 0 0] 26 (0, 0)) (by (with_reducible repeat (first | refine k1_ ?_ _ | refine k2_ ?_ | refine k3_ ?_ _)); exact BK147.out)) : gb152 ≠ gb147)); clear HO151; clear BK147; clear HB; have HO151 := n0_; have BK147 := n1_; have HB := n2_; have BK152 := n3_; have GW152 := n4_; have GE152 := n5_; have NB147_152 := n6_; have NB152_147 := n7_; clear n0_ n1_ n2_ n3_ n4_ n5_ n6_ n7_; clear hb hbox hg; have hnb6 := NB152_147.out; have hnc6 := NB147_152.out; have hcz7_0 : w5.cell? ⟨gb152, 0, none⟩ = some (.bool false) := (blk_cell BK152.out 0).trans rfl; have hcz7_1 : w5.cell? ⟨gb152, 1, none⟩ = some (.slice none 0 0) := (blk_cell BK152.out 1).trans rfl; have hfz7_0 := blk_frozen BK152.out 0; have hfz7_1 := blk_frozen BK152.out 1; obtain ⟨Ao8, co8, eo8⟩ := Kd.V_slice HO151.out; subst eo8))
 go_loopg [4] k (fun kq v4 w' => ∃ (x4_1 : Int) (x153000_1 : Bool) (x153001_1 : List Int) (u153001 : Value), v4 = .int .i64 x4_1 ∧ Aside0 (spec_Ten.l0 kq a0 x4_1 x153000_1 x153001_1 = some (r1, r2)) ∧ Aside0 (kq ≤ k) ∧ Aside0 (Kd.V (Kd.int .u32) 40 w' w.heap.size (fun k_ => (w.heap.size ≤ k_) ∧ k_ ≠ gb147 ∧ k_ ≠ gb152) u153001 x153001_1) ∧ Aside0 (w'.heap[gb147]? = some (.cells #[.bool false, (.slice none 0 0)] 26 (0, 0))) ∧ Aside0 (w'.heap[gb152]? = some (.cells #[.bool x153000_1, u153001] 26 (0, 0))) ∧ Aside0 (Below w.heap.size w w'))
 case atStart => exact ⟨(0), (t148), (t149), (.slice Ao8 t149.length co8), (by first | rfl | (simp; done) | (simp [*]; done)), H', ⟨Nat.le_refl _⟩, ⟨by (with_reducible repeat (first | apply v1_ | apply v2_ | apply v3_)); exact v4_ (v5_ (p := ⟨gb152, 1, none⟩) (v5_ (p := ⟨gb152, 0, none⟩) (v4_ HO151.out (fun k_ hk => (⟨hk, hk.2⟩ : _ ∧ k_ ≠ gb152))) (fun _ hk => hk.2) (.bool t148)) (fun _ hk => hk.2) (.slice Ao8 t149.length co8)) (fun _ hk => ⟨hk.1.1.1, ⟨hk.1.1.2, hk.1.2⟩⟩)⟩, ⟨by (with_reducible repeat (first | refine k1_ ?_ _ | refine k2_ ?_ | refine k3_ ?_ _)); refine blk_far ?_ NB147_152.out _; (with_reducible repeat (first | refine k1_ ?_ _ | refine k2_ ?_ | refine k3_ ?_ _)); refine blk_far ?_ NB147_152.out _; (with_reducible repeat (first | refine k1_ ?_ _ | refine k2_ ?_ | refine k3_ ?_ _)); exact BK147.out⟩, ⟨by (with_reducible repeat (first | refine k1_ ?_ _ | refine k2_ ?_ | refine k3_ ?_ _)); refine blk_put (cs := #[.bool t148, .slice none 0 0]) ?_ 1 _ rfl; (with_reducible repeat (first | refine k1_ ?_ _ | refine k2_ ?_ | refine k3_ ?_ _)); refine blk_put (cs := #[.bool false, .slice none 0 0]) ?_ 0 _ rfl; (with_reducible repeat (first | refine k1_ ?_ _ | refine k2_ ?_ | refine k3_ ?_ _)); exact BK152.out⟩, ⟨by repeat (first | (with_reducible first | exact HB.out | apply b1_ | apply b2_ | apply b3_ | refine b4_ ?_ GE147.out | refine b4_ ?_ GE152.out) | exact HB.out)⟩⟩
 case round =>
  clear H'
  try clear p2
  try clear c5
  try clear c6
  try clear c7
  try clear hcz7_0
  try clear hcz7_1
  try clear hfz7_0
  try clear hfz7_1
  obtain ⟨x4_1, x153000_1, x153001_1, u153001, rfl, HA, HK1, HO_153001, BK147, BK152, HB⟩ := hrel
  cases gk with
  | zero => exact absurd HA.out (by simp [spec_Ten.l0])
  | succ k1 =>
   have H := HA.out
   clear HA
   simp only [spec_Ten.l0] at H
   by_cases c9 : x4_1 < a0
   ·
    rw [if_pos c9] at H
    have c9b0 : decide (x4_1 < a0) = true := d2_ c9
    clear c9
    replace H := Option.bind_eq_some_iff.mp H
    obtain ⟨⟨t153, t154⟩, A100, H⟩ := H
    replace H : ((spec_WideMul.f k1 x153000_1 x153001_1 t153 t154).bind fun bt157 => (spec_Ten.l0 k1 a0 (wrap64 (x4_1 + 1)) bt157.1 bt157.2)) = some (r1, r2) := H
    have A10 := a0_ A100
    clear A100
    replace H := Option.bind_eq_some_iff.mp H
    obtain ⟨⟨t157, t158⟩, A110, H⟩ := H
    replace H : (spec_Ten.l0 k1 a0 (wrap64 (x4_1 + 1)) t157 t158) = some (r1, r2) := H
    have A11 := a0_ A110
    clear A110
    have H' := a0_ H
    clear H
    try go_wp2
    have n0_ := a0_ (v3_ HO_153001.out)
    have n1_ := a0_ (k2_ BK147.out)
    have n2_ := a0_ (k2_ BK152.out)
    have n3_ := a0_ (b3_ HB.out)
    clear HO_153001
    clear BK147
    clear BK152
    clear HB
    have HO_153001 := n0_
    have BK147 := n1_
    have BK152 := n2_
    have HB := n3_
    clear n0_ n1_ n2_ n3_
    refine start_ (n := 4) (S := fun w' => w'.cell? ⟨gb152, 0, none⟩ = some (.bool x153000_1) ∧ w'.cell? ⟨gb152, 1, none⟩ = some (u153001)) (ds := [3]) #[false, false, false, false] (by kernel_rfl) rfl rfl ⟨(blk_cell BK152.out 0).trans rfl, (blk_cell BK152.out 1).trans rfl⟩ (fun hHeld => ?_)
    generalize wr.drew = w12 at HO_153001 BK147 BK152 HB hHeld ⊢
    refine take_ (i := 0) (N := some 11) (v := ?_) (a' := ?_) #[true, false, false, false] rfl rfl (by kernel_rfl) (fun _ _ _ h => h) (Or.inl ⟨by rfl, ?_⟩) hHeld ?_ ?_
    rotate_left
    ·
     rintro w' ⟨s0, s1⟩
     go_simp
     with_reducible rfl
    rotate_left
    ·
     simp only [Act.put, s1_, s2_, s3_, i64_w, i32_w]
     rfl
    refine one_ (i := 1) (N := some 12) #[true, true, false, false] rfl rfl (by kernel_rfl) (by decide) (fun K hK => ?_)
    refine goes_ Tryd.func5 (by kernel_rfl) rfl #[.int .i64 10] (by rfl) rfl rfl (by (try simp only [List.map_toArray, List.map_cons, List.map_nil]); first | done | rfl | (simp only [List.length_drop, List.length_take]; rfl)) ?_
    with_reducible refine (spec_WideInt.calls k1 10 t153 t154 _ A10.out).mono ?_
    rintro e w13 ⟨v155, rfl, ho0, hb⟩
    refine ⟨_, rfl, ?_⟩
    have n0_ := a0_ (Kd.V_below (by (with_reducible repeat (first | apply v1_ | apply v2_ | apply v3_)); exact HO_153001.out) hb)
    have n1_ := a0_ (Kd.V_lower (v4_ (ok' := fun k_ => (w.heap.size ≤ k_) ∧ k_ ≠ gb147 ∧ k_ ≠ gb152) ho0 (fun k_ hk_ => ⟨(Nat.le_trans (below_size (by repeat (first | (with_reducible first | exact HB.out | apply b1_ | apply b2_ | apply b3_ | refine b4_ ?_ GE147.out | refine b4_ ?_ GE152.out) | exact HB.out))) hk_), (Kd.freshB (g := gb147) (o := .cells #[.bool false, .slice none 0 0] 26 (0, 0)) (by (with_reducible repeat (first | refine k1_ ?_ _ | refine k2_ ?_ | refine k3_ ?_ _)); exact BK147.out) k_ hk_), (Kd.freshB (g := gb152) (o := .cells #[.bool x153000_1, u153001] 26 (0, 0)) (by (with_reducible repeat (first | refine k1_ ?_ _ | refine k2_ ?_ | refine k3_ ?_ _)); exact BK152.out) k_ hk_)⟩)) (below_size (by repeat (first | (with_reducible first | exact HB.out | apply b1_ | apply b2_ | apply b3_ | refine b4_ ?_ GE147.out | refine b4_ ?_ GE152.out) | exact HB.out))))
    have n2_ := a0_ (blk_below (g := gb147) (o := .cells #[.bool false, .slice none 0 0] 26 (0, 0)) (by (with_reducible repeat (first | refine k1_ ?_ _ | refine k2_ ?_ | refine k3_ ?_ _)); exact BK147.out) hb)
    have n3_ := a0_ (blk_below (g := gb152) (o := .cells #[.bool x153000_1, u153001] 26 (0, 0)) (by (with_reducible repeat (first | refine k1_ ?_ _ | refine k2_ ?_ | refine k3_ ?_ _)); exact BK152.out) hb)
    have n4_ := a0_ (below_step (by repeat (first | (with_reducible first | exact HB.out | apply b1_ | apply b2_ | apply b3_ | refine b4_ ?_ GE147.out | refine b4_ ?_ GE152.out) | exact HB.out)) hb)
    clear HO_153001
    clear BK147
    clear BK152
    clear HB
    have HO_153001 := n0_
    have HO156 := n1_
    have BK147 := n2_
    have BK152 := n3_
    have HB := n4_
    clear n0_ n1_ n2_ n3_ n4_
    (try clear hb)
    (try clear hb2)
    (try clear hk)
    (try clear hi)
    (try clear ho0)
    obtain ⟨Ao14, co14, eo14⟩ := Kd.V_slice HO_153001.out
    (first | subst eo14 | (injection eo14 with f1_ f2_ f3_; have f4_ := f1_.symm; have f5_ := f3_.symm; clear f1_ f2_ f3_; subst f4_; subst f5_))
    obtain ⟨Ao15, co15, eo15⟩ := Kd.V_slice HO156.out
    (first | subst eo15 | (injection eo15 with f1_ f2_ f3_; have f4_ := f1_.symm; have f5_ := f3_.symm; clear f1_ f2_ f3_; subst f4_; subst f5_))
    refine hK.out _ _ ⟨(blk_cell BK152.out 0).trans rfl, (blk_cell BK152.out 1).trans rfl⟩ (fun hHeld => ?_)
    clear hK K
    refine norm_ (a' := ?_) ?_ ?_
    rotate_left
    ·
     show Act.put _ (some 12) _ = _
     simp only [Act.put, s1_, s2_, s3_, i64_w, i32_w]
     rfl
    refine one_ (i := 2) (N := some 13) #[true, true, true, false] rfl rfl (by kernel_rfl) (by decide) (fun K hK => ?_)
    refine goes_ Tryd.func6 (by kernel_rfl) rfl #[.agg #[.bool x153000_1, .slice Ao14 x153001_1.length co14], .agg #[.bool t153, .slice Ao15 t154.length co15]] (by rfl) rfl rfl (by (try simp only [List.map_toArray, List.map_cons, List.map_nil]); first | done | rfl | (simp only [List.length_drop, List.length_take]; rfl)) ?_
    with_reducible refine (spec_WideMul.calls k1 x153000_1 _ _ x153001_1 t153 _ _ t154 t157 t158 _ ?side1 ?side2 ?side3 ?side4 A11.out).mono ?_
    (case side1 => repeat (first | exact (Kd.V_reads' HO_153001.out).2.2 | (with_reducible refine Kd.C_alloc ?_ _) | (with_reducible refine Kd.C_drewN ?_ _) | (with_reducible refine Kd.C_drew ?_)))
    (case side2 => exact (Kd.V_reads' HO_153001.out).2.1)
    (case side3 => repeat (first | exact (Kd.V_reads' HO156.out).2.2 | (with_reducible refine Kd.C_alloc ?_ _) | (with_reducible refine Kd.C_drewN ?_ _) | (with_reducible refine Kd.C_drew ?_)))
    (case side4 => exact (Kd.V_reads' HO156.out).2.1)
    rintro e w16 ⟨v159, rfl, ho0, hb⟩
    refine ⟨_, rfl, ?_⟩
    have n0_ := a0_ (Kd.V_below (by (with_reducible repeat (first | apply v1_ | apply v2_ | apply v3_)); exact HO_153001.out) hb)
    have n1_ := a0_ (Kd.V_below (by (with_reducible repeat (first | apply v1_ | apply v2_ | apply v3_)); exact HO156.out) hb)
    have n2_ := a0_ (Kd.V_lower (v4_ (ok' := fun k_ => (w.heap.size ≤ k_) ∧ k_ ≠ gb147 ∧ k_ ≠ gb152) ho0 (fun k_ hk_ => ⟨(Nat.le_trans (below_size (by repeat (first | (with_reducible first | exact HB.out | apply b1_ | apply b2_ | apply b3_ | refine b4_ ?_ GE147.out | refine b4_ ?_ GE152.out) | exact HB.out))) hk_), (Kd.freshB (g := gb147) (o := .cells #[.bool false, .slice none 0 0] 26 (0, 0)) (by (with_reducible repeat (first | refine k1_ ?_ _ | refine k2_ ?_ | refine k3_ ?_ _)); exact BK147.out) k_ hk_), (Kd.freshB (g := gb152) (o := .cells #[.bool x153000_1, .slice Ao14 x153001_1.length co14] 26 (0, 0)) (by (with_reducible repeat (first | refine k1_ ?_ _ | refine k2_ ?_ | refine k3_ ?_ _)); exact BK152.out) k_ hk_)⟩)) (below_size (by repeat (first | (with_reducible first | exact HB.out | apply b1_ | apply b2_ | apply b3_ | refine b4_ ?_ GE147.out | refine b4_ ?_ GE152.out) | exact HB.out))))
    have n3_ := a0_ (blk_below (g := gb147) (o := .cells #[.bool false, .slice none 0 0] 26 (0, 0)) (by (with_reducible repeat (first | refine k1_ ?_ _ | refine k2_ ?_ | refine k3_ ?_ _)); exact BK147.out) hb)
    have n4_ := a0_ (blk_below (g := gb152) (o := .cells #[.bool x153000_1, .slice Ao14 x153001_1.length co14] 26 (0, 0)) (by (with_reducible repeat (first | refine k1_ ?_ _ | refine k2_ ?_ | refine k3_ ?_ _)); exact BK152.out) hb)
    have n5_ := a0_ (below_step (by repeat (first | (with_reducible first | exact HB.out | apply b1_ | apply b2_ | apply b3_ | refine b4_ ?_ GE147.out | refine b4_ ?_ GE152.out) | exact HB.out)) hb)
    clear HO_153001
    clear HO156
    clear BK147
    clear BK152
    clear HB
    have HO_153001 := n0_
    have HO156 := n1_
    have HO160 := n2_
    have BK147 := n3_
    have BK152 := n4_
    have HB := n5_
    clear n0_ n1_ n2_ n3_ n4_ n5_
    (try clear hb)
    (try clear hb2)
    (try clear hk)
    (try clear hi)
    (try clear ho0)
    obtain ⟨Ao18, co18, eo18⟩ := Kd.V_slice HO160.out
    (first | subst eo18 | (injection eo18 with f1_ f2_ f3_; have f4_ := f1_.symm; have f5_ := f3_.symm; clear f1_ f2_ f3_; subst f4_; subst f5_))
    refine hK.out _ _ ⟨(blk_cell BK152.out 0).trans rfl, (blk_cell BK152.out 1).trans rfl⟩ (fun hHeld => ?_)
    clear hK K
    refine norm_ (a' := ?_) ?_ ?_
    rotate_left
    ·
     show Act.put _ (some 13) _ = _
     simp only [Act.put, s1_, s2_, s3_, i64_w, i32_w]
     rfl
    refine last_ (i := 3) (N := none) #[true, true, true, true] rfl rfl (by kernel_rfl) (by decide) (fun K hK => ?_)
    have hs17 : w16.cell? ⟨gb152, 0, none⟩ = some (.bool x153000_1) := (blk_cell BK152.out 0).trans rfl
    have hfs17 := blk_frozen BK152.out 0
    have hns17_0 := NB147_152.out
    have hms17_0 := NB152_147.out
    have hs19 : w16.cell? ⟨gb152, 1, none⟩ = some (.slice Ao14 x153001_1.length co14) := (blk_cell BK152.out 1).trans rfl
    have hfs19 := blk_frozen BK152.out 1
    have hns19_0 := NB147_152.out
    have hms19_0 := NB152_147.out
    refine skip_ (w1 := ?_) (by rfl) rfl ?_ ?_
    rotate_left
    ·
     go_simp
     rfl
    refine hK.out _ _ ?_
    clear hK K
    refine done_ (by kernel_rfl) ?_
    try go_wp2
    go_roundg k1
    case measure => have := HK1.out; omega
    case rel => exact ⟨(wrap64 (x4_1 + 1)), (t157), (t158), (.slice Ao18 t158.length co18), (by first | rfl | (simp; done) | (simp [*]; done)), H', ⟨by have := HK1.out; omega⟩, ⟨by (with_reducible repeat (first | apply v1_ | apply v2_ | apply v3_)); exact v4_ (v5_ (p := ⟨gb152, 1, none⟩) (v5_ (p := ⟨gb152, 0, none⟩) (v4_ HO160.out (fun k_ hk => (⟨hk, hk.2.2⟩ : _ ∧ k_ ≠ gb152))) (fun _ hk => hk.2) (.bool t157)) (fun _ hk => hk.2) (.slice Ao18 t158.length co18)) (fun _ hk => ⟨hk.1.1, ⟨hk.1.2.1, hk.1.2.2⟩⟩)⟩, ⟨by (with_reducible repeat (first | refine k1_ ?_ _ | refine k2_ ?_ | refine k3_ ?_ _)); refine blk_far ?_ NB147_152.out _; (with_reducible repeat (first | refine k1_ ?_ _ | refine k2_ ?_ | refine k3_ ?_ _)); refine blk_far ?_ NB147_152.out _; (with_reducible repeat (first | refine k1_ ?_ _ | refine k2_ ?_ | refine k3_ ?_ _)); exact BK147.out⟩, ⟨by (with_reducible repeat (first | refine k1_ ?_ _ | refine k2_ ?_ | refine k3_ ?_ _)); refine blk_put (cs := #[.bool t157, .slice Ao14 x153001_1.length co14]) ?_ 1 _ rfl; (with_reducible repeat (first | refine k1_ ?_ _ | refine k2_ ?_ | refine k3_ ?_ _)); refine blk_put (cs := #[.bool x153000_1, .slice Ao14 x153001_1.length co14]) ?_ 0 _ rfl; (with_reducible repeat (first | refine k1_ ?_ _ | refine k2_ ?_ | refine k3_ ?_ _)); exact BK152.out⟩, ⟨by repeat (first | (with_reducible first | exact HB.out | apply b1_ | apply b2_ | apply b3_ | refine b4_ ?_ GE147.out | refine b4_ ?_ GE152.out) | exact HB.out)⟩⟩
   ·
    rw [if_neg c9] at H
    have c9b0 : decide (x4_1 < a0) = false := d3_ c9
    clear c9
    simp only [Option.some.injEq, Prod.mk.injEq] at H
    obtain ⟨rfl, rfl⟩ := H
    have hnb20 := NB152_147.out
    have hnc20 := NB147_152.out
    have hcz21_0 : wr.cell? ⟨gb152, 0, none⟩ = some (.bool x153000_1) := (blk_cell BK152.out 0).trans rfl
    have hcz21_1 : wr.cell? ⟨gb152, 1, none⟩ = some (u153001) := (blk_cell BK152.out 1).trans rfl
    have hfz21_0 := blk_frozen BK152.out 0
    have hfz21_1 := blk_frozen BK152.out 1
    have hcz22_0 : wr.cell? ⟨gb147, 0, none⟩ = some (.bool false) := (blk_cell BK147.out 0).trans rfl
    have hcz22_1 : wr.cell? ⟨gb147, 1, none⟩ = some (.slice none 0 0) := (blk_cell BK147.out 1).trans rfl
    have hfz22_0 := blk_frozen BK147.out 0
    have hfz22_1 := blk_frozen BK147.out 1
    obtain ⟨Ao23, co23, eo23⟩ := Kd.V_slice HO_153001.out
    subst eo23
    go_wp2
    refine bodyPost_ret (results_cell_row rfl _ _ gb147 26 #[.bool x153000_1, .slice Ao23 x153001_1.length co23] (0, 0) _ rfl (by (with_reducible repeat (first | refine k1_ ?_ _ | refine k2_ ?_ | refine k3_ ?_ _)); refine blk_put (cs := #[.bool x153000_1, .slice none 0 0]) ?_ 1 _ rfl; (with_reducible repeat (first | refine k1_ ?_ _ | refine k2_ ?_ | refine k3_ ?_ _)); refine blk_put (cs := #[.bool false, .slice none 0 0]) ?_ 0 _ rfl; (with_reducible repeat (first | refine k1_ ?_ _ | refine k2_ ?_ | refine k3_ ?_ _)); exact BK147.out) Tryd.underlying26 rfl (by kernel_rfl)) rfl ?_
    exact ⟨_, by first | rfl | (simp [e1_, e2_] <;> rfl) | (simp [*, e1_, e2_] <;> rfl), by (with_reducible repeat (first | apply v1_ | apply v2_ | apply v3_)); exact v4_ (v5_ (p := ⟨gb147, 1, none⟩) (v5_ (p := ⟨gb147, 0, none⟩) (v4_ HO_153001.out (fun k_ hk => (⟨hk, hk.2.1⟩ : _ ∧ k_ ≠ gb147))) (fun _ hk => hk.2) (.bool x153000_1)) (fun _ hk => hk.2) (.slice Ao23 x153001_1.length co23)) (fun _ hk => hk.1.1), by repeat (first | (with_reducible first | exact HB.out | apply b1_ | apply b2_ | apply b3_ | refine b4_ ?_ GE147.out | refine b4_ ?_ GE152.out) | exact HB.out)⟩

/-! ### spec_WideDiv: function 8 -/
def spec_WideDiv.f (k : Nat) (a0_0 : Bool) (l0_1 : List Int) (a1_0 : Bool) (l1_1 : List Int) : Option (Bool × List Int × Bool × List Int) := (spec_magDiv.f k l0_1 l1_1).bind fun bt224 => ((spec_wide.f k (a0_0 != a1_0) bt224.1).bind fun bt230 => ((spec_wide.f k a0_0 bt224.2).bind fun bt234 => (some (bt230.1, bt230.2, bt234.1, bt234.2))))
def spec_WideDiv.T2 : Bool × List (List Nat × List Nat) := (true, [([], []), ([0], [0]), ([], []), ([2], [2]), ([1, 3], [1, 3]), ([], []), ([4, 5], [4, 5]), ([], []), ([7], [7]), ([], []), ([8, 9, 6], [8, 9]), ([6, 10, 0, 1, 2, 3, 4, 5, 6], [6]), ([10, 11, 0, 1, 2, 3, 4, 5, 6, 7, 8, 9, 10, 11], [10])])
def spec_WideDiv.B2 : List Nat := [0, 1, 0, 4, 15, 0, 63, 0, 128, 0, 1023, 2047, 4095]
theorem spec_WideDiv.tab2 : rtab .any (opsOf Tryd.f8 2) = spec_WideDiv.T2 := by kernel_rfl
theorem spec_WideDiv.bits2 : waitsOk spec_WideDiv.T2.2 spec_WideDiv.B2 = true := by kernel_rfl
set_option maxHeartbeats 8000000 in
set_option maxRecDepth 100000 in
theorem spec_WideDiv.calls (k : Nat) (a0_0 : Bool) (A0_1 : Option Addr) (c0_1 : Nat) (l0_1 : List Int) (a1_0 : Bool) (A1_1 : Option Addr) (c1_1 : Nat) (l1_1 : List Int) (r1 : Bool) (r2 : List Int) (r3 : Bool) (r4 : List Int) (w : World) (hr0_1 : Kd.C (Kd.int .u32) w A0_1 l0_1.length l0_1) (hc0_1 : l0_1.length ≤ c0_1) (hr1_1 : Kd.C (Kd.int .u32) w A1_1 l1_1.length l1_1) (hc1_1 : l1_1.length ≤ c1_1) (h : spec_WideDiv.f k a0_0 l0_1 a1_0 l1_1 = some (r1, r2, r3, r4)) :
  Calls Tryd.prog 8 #[.agg #[.bool a0_0, .slice A0_1 l0_1.length c0_1], .agg #[.bool a1_0, .slice A1_1 l1_1.length c1_1]] w fun e w' => ∃ v1_ v3_ : Value, e = .returned (.tuple #[.agg #[.bool r1, v1_], .agg #[.bool r3, v3_]]) ∧ Kd.V (Kd.int .u32) 40 w' w.heap.size (fun k_ => (w.heap.size ≤ k_)) v1_ r2 ∧ Kd.V (Kd.int .u32) 40 w' w.heap.size (fun k_ => (w.heap.size ≤ k_)) v3_ r4 ∧ Below w.heap.size w w' := by
 have hu26 := Tryd.underlying26
 have HR0_1 := a0_ hr0_1
 have HC0_1 := a0_ hc0_1
 clear hr0_1 hc0_1
 have HR1_1 := a0_ hr1_1
 have HC1_1 := a0_ hc1_1
 clear hr1_1 hc1_1
 have HB := a0_ (Below.refl w.heap.size w)
 have H : ((spec_magDiv.f k l0_1 l1_1).bind fun bt224 => ((spec_wide.f k (a0_0 != a1_0) bt224.1).bind fun bt230 => ((spec_wide.f k a0_0 bt224.2).bind fun bt234 => (some (bt230.1, bt230.2, bt234.1, bt234.2))))) = some (r1, r2, r3, r4) := h
 clear h
 replace H := Option.bind_eq_some_iff.mp H
 obtain ⟨⟨t224, t227⟩, A30, H⟩ := H
 replace H : ((spec_wide.f k (a0_0 != a1_0) t224).bind fun bt230 => ((spec_wide.f k a0_0 t227).bind fun bt234 => (some (bt230.1, bt230.2, bt234.1, bt234.2)))) = some (r1, r2, r3, r4) := H
 have A3 := a0_ A30
 clear A30
 replace H := Option.bind_eq_some_iff.mp H
 obtain ⟨⟨t230, t231⟩, A40, H⟩ := H
 replace H : ((spec_wide.f k a0_0 t227).bind fun bt234 => (some (t230, t231, bt234.1, bt234.2))) = some (r1, r2, r3, r4) := H
 have A4 := a0_ A40
 clear A40
 replace H := Option.bind_eq_some_iff.mp H
 obtain ⟨⟨t234, t235⟩, A50, H⟩ := H
 replace H : (some (t230, t231, t234, t235)) = some (r1, r2, r3, r4) := H
 have A5 := a0_ A50
 clear A50
 simp only [Option.some.injEq, Prod.mk.injEq] at H
 obtain ⟨rfl, rfl, rfl, rfl⟩ := H
 go_enter Tryd.func8, Tryd.ntmps8
 try go_wp2_with (first | ((with_reducible refine gate_dst (N := 2) rfl ?_); refine box_event ?hg (N := 2) ?hd (cs := #[.bool a0_0, .slice A0_1 l0_1.length c0_1]) (t := 26) ?hr ?_; (case hd => rfl); (case hg => rfl); (case hr => first | (go_simp; done) | (go_simp; rfl)); intro gb220 hg w6 hbox hb; have n0_ := a0_ (below_step (by repeat (first | (with_reducible first | exact HB.out | apply b1_ | apply b2_ | apply b3_) | exact HB.out)) hb); have n1_ := a0_ (hbox); have n2_ := a0_ ((by rw [hg]; exact (below_size (by repeat (first | (with_reducible first | exact HB.out | apply b1_ | apply b2_ | apply b3_) | exact HB.out))) : w.heap.size ≤ gb220)); have n3_ := a0_ ((by rw [hg]; exact (below_size (by repeat (first | (with_reducible first | exact HB.out | apply b1_ | apply b2_ | apply b3_) | exact HB.out))) : w.heap.size ≤ gb220)); clear HB; have HB := n0_; have BK220 := n1_; have GW220 := n2_; have GE220 := n3_; clear n0_ n1_ n2_ n3_; clear hb hbox hg) | ((with_reducible refine gate_dst (N := 3) rfl ?_); refine box_event ?hg (N := 3) ?hd (cs := #[.bool a1_0, .slice A1_1 l1_1.length c1_1]) (t := 26) ?hr ?_; (case hd => rfl); (case hg => rfl); (case hr => first | (go_simp; done) | (go_simp; rfl)); intro gb221 hg w7 hbox hb; have n0_ := a0_ (blk_below (g := gb220) (o := .cells #[.bool a0_0, .slice A0_1 l0_1.length c0_1] 26 (0, 0)) (by (with_reducible repeat (first | refine k1_ ?_ _ | refine k2_ ?_ | refine k3_ ?_ _)); exact BK220.out) hb); have n1_ := a0_ (below_step (by repeat (first | (with_reducible first | exact HB.out | apply b1_ | apply b2_ | apply b3_ | refine b4_ ?_ GE220.out) | exact HB.out)) hb); have n2_ := a0_ (hbox); have n3_ := a0_ ((by rw [hg]; exact (below_size (by repeat (first | (with_reducible first | exact HB.out | apply b1_ | apply b2_ | apply b3_ | refine b4_ ?_ GE220.out) | exact HB.out))) : w.heap.size ≤ gb221)); have n4_ := a0_ ((by rw [hg]; exact (below_size (by repeat (first | (with_reducible first | exact HB.out | apply b1_ | apply b2_ | apply b3_ | refine b4_ ?_ GE220.out) | exact HB.out))) : w.heap.size ≤ gb221)); have n5_ := a0_ ((by rw [hg]; exact Nat.ne_of_lt (blk_lt (g := gb220) (o := .cells #[.bool a0_0, .slice A0_1 l0_1.length c0_1] 26 (0, 0)) (by (with_reducible repeat (first | refine k1_ ?_ _ | refine k2_ ?_ | refine k3_ ?_ _)); exact BK220.out)) : gb220 ≠ gb221)); have n6_ := a0_ ((by rw [hg]; exact Nat.ne_of_gt (blk_lt (g := gb220) (o := .cells #[.bool a0_0, .slice A0_1 l0_1.length c0_1] 26 (0, 0)) (by (with_reducible repeat (first | refine k1_ ?_ _ | refine k2_ ?_ | refine k3_ ?_ _)); exact BK220.out)) : gb221 ≠ gb220)); clear BK220; clear HB; have BK220 := n0_; have HB := n1_; have BK221 := n2_; have GW221 := n3_; have GE221 := n4_; have NB220_221 := n5_; have NB221_220 := n6_; clear n0_ n1_ n2_ n3_ n4_ n5_ n6_; clear hb hbox hg) | ((with_reducible refine gate_dst (N := 4) rfl ?_); refine box_event ?hg (N := 4) ?hd (cs := #[.bool false, .slice none 0 0]) (t := 26) ?hr ?_; (case hd => rfl); (case hg => rfl); (case hr => first | (go_simp; done) | (go_simp; rfl)); intro gb222 hg w8 hbox hb; have n0_ := a0_ (blk_below (g := gb220) (o := .cells #[.bool a0_0, .slice A0_1 l0_1.length c0_1] 26 (0, 0)) (by (with_reducible repeat (first | refine k1_ ?_ _ | refine k2_ ?_ | refine k3_ ?_ _)); exact BK220.out) hb); have n1_ := a0_ (blk_below (g := gb221) (o := .cells #[.bool a1_0, .slice A1_1 l1_1.length c1_1] 26 (0, 0)) (by (with_reducible repeat (first | refine k1_ ?_ _ | refine k2_ ?_ | refine k3_ ?_ _)); exact BK221.out) hb); have n2_ := a0_ (below_step (by repeat (first | (with_reducible first | exact HB.out | apply b1_ | apply b2_ | apply b3_ | refine b4_ ?_ GE220.out | refine b4_ ?_ GE221.out) | exact HB.out)) hb); have n3_ := a0_ (hbox); have n4_ := a0_ ((by rw [hg]; exact (below_size (by repeat (first | (with_reducible first | exact HB.out | apply b1_ | apply b2_ | apply b3_ | refine b4_ ?_ GE220.out | refine b4_ ?_ GE221.out) | exact HB.out))) : w.heap.size ≤ gb222)); have n5_ := a0_ ((by rw [hg]; exact (below_size (by repeat (first | (with_reducible first | exact HB.out | apply b1_ | apply b2_ | apply b3_ | refine b4_ ?_ GE220.out | refine b4_ ?_ GE221.out) | exact HB.out))) : w.heap.size ≤ gb222)); have n6_ := a0_ ((by rw [hg]; exact Nat.ne_of_lt (blk_lt (g := gb220) (o := .cells #[.bool a0_0, .slice A0_1 l0_1.length c0_1] 26 (0, 0)) (by (with_reducible repeat (first | refine k1_ ?_ _ | refine k2_ ?_ | refine k3_ ?_ _)); exact BK220.out)) : gb220 ≠ gb222)); have n7_ := a0_ ((by rw [hg]; exact Nat.ne_of_gt (blk_lt (g := gb220) (o := .cells #[.bool a0_0, .slice A0_1 l0_1.length c0_1] 26 (0, 0)) (by (with_reducible repeat (first | refine k1_ ?_ _ | refine k2_ ?_ | refine k3_ ?_ _)); exact BK220.out)) : gb222 ≠ gb220)); have n8_ := a0_ ((by rw [hg]; exact Nat.ne_of_lt (blk_lt (g := gb221) (o := .cells #[.bool a1_0, .slice A1_1 l1_1.length c1_1] 26 (0, 0)) (by (with_reducible repeat (first | refine k1_ ?_ _ | refine k2_ ?_ | refine k3_ ?_ _)); exact BK221.out)) : gb221 ≠ gb222)); have n9_ := a0_ ((by rw [hg]; exact Nat.ne_of_gt (blk_lt (g := gb221) (o := .cells #[.bool a1_0, .slice A1_1 l1_1.length c1_1] 26 (0, 0)) (by (with_reducible repeat (first | refine k1_ ?_ _ | refine k2_ ?_ | refine k3_ ?_ _)); exact BK221.out)) : gb222 ≠ gb221)); clear BK220; clear BK221; clear HB; have BK220 := n0_; have BK221 := n1_; have HB := n2_; have BK222 := n3_; have GW222 := n4_; have GE222 := n5_; have NB220_222 := n6_; have NB222_220 := n7_; have NB221_222 := n8_; have NB222_221 := n9_; clear n0_ n1_ n2_ n3_ n4_ n5_ n6_ n7_ n8_ n9_; clear hb hbox hg) | ((with_reducible refine gate_dst (N := 5) rfl ?_); refine box_event ?hg (N := 5) ?hd (cs := #[.bool false, .slice none 0 0]) (t := 26) ?hr ?_; (case hd => rfl); (case hg => rfl); (case hr => first | (go_simp; done) | (go_simp; rfl)); intro gb223 hg w9 hbox hb; have n0_ := a0_ (blk_below (g := gb220) (o := .cells #[.bool a0_0, .slice A0_1 l0_1.length c0_1] 26 (0, 0)) (by (with_reducible repeat (first | refine k1_ ?_ _ | refine k2_ ?_ | refine k3_ ?_ _)); exact BK220.out) hb); have n1_ := a0_ (blk_below (g := gb221) (o := .cells #[.bool a1_0, .slice A1_1 l1_1.length c1_1] 26 (0, 0)) (by (with_reducible repeat (first | refine k1_ ?_ _ | refine k2_ ?_ | refine k3_ ?_ _)); exact BK221.out) hb); have n2_ := a0_ (blk_below (g := gb222) (o := .cells #[.bool false, .slice none 0 0] 26 (0, 0)) (by (with_reducible repeat (first | refine k1_ ?_ _ | refine k2_ ?_ | refine k3_ ?_ _)); exact BK222.out) hb); have n3_ := a0_ (below_step (by repeat (first | (with_reducible first | exact HB.out | apply b1_ | apply b2_ | apply b3_ | refine b4_ ?_ GE220.out | refine b4_ ?_ GE221.out | refine b4_ ?_ GE222.out) | exact HB.out)) hb); have n4_ := a0_ (hbox); have n5_ := a0_ ((by rw [hg]; exact (below_size (by repeat (first | (with_reducible first | exact HB.out | apply b1_ | apply b2_ | apply b3_ | refine b4_ ?_ GE220.out | refine b4_ ?_ GE221.out | refine b4_ ?_ GE222.out) | exact HB.out))) : w.heap.size ≤ gb223)); have n6_ := a0_ ((by rw [hg]; exact (below_size (by repeat (first | (with_reducible first | exact HB.out | apply b1_ | apply b2_ | apply b3_ | refine b4_ ?_ GE220.out | refine b4_ ?_ GE221.out | refine b4_ ?_ GE222.out) | exact HB.out))) : w.heap.size ≤ gb223)); have n7_ := a0_ ((by rw [hg]; exact Nat.ne_of_lt (blk_lt (g := gb220) (o := .cells #[.bool a0_0, .slice A0_1 l0_1.length c0_1] 26 (0, 0)) (by (with_reducible repeat (first | refine k1_ ?_ _ | refine k2_ ?_ | refine k3_ ?_ _)); exact BK220.out)) : gb220 ≠ gb223)); have n8_ := a0_ ((by rw [hg]; exact Nat.ne_of_gt (blk_lt (g := gb220) (o := .cells #[.bool a0_0, .slice A0_1 l0_1.length c0_1] 26 (0, 0)) (by (with_reducible repeat (first | refine k1_ ?_ _ | refine k2_ ?_ | refine k3_ ?_ _)); exact BK220.out)) : gb223 ≠ gb220)); have n9_ := a0_ ((by rw [hg]; exact Nat.ne_of_lt (blk_lt (g := gb221) (o := .cells #[.bool a1_0, .slice A1_1 l1_1.length c1_1] 26 (0, 0)) (by (with_reducible repeat (first | refine k1_ ?_ _ | refine k2_ ?_ | refine k3_ ?_ _)); exact BK221.out)) : gb221 ≠ gb223)); have n10_ := a0_ ((by rw [hg]; exact Nat.ne_of_gt (blk_lt (g := gb221) (o := .cells #[.bool a1_0, .slice A1_1 l1_1.length c1_1] 26 (0, 0)) (by (with_reducible repeat (first | refine k1_ ?_ _ | refine k2_ ?_ | refine k3_ ?_ _)); exact BK221.out)) : gb223 ≠ gb221)); have n11_ := a0_ ((by rw [hg]; exact Nat.ne_of_lt (blk_lt (g := gb222) (o := .cells #[.bool false, .slice none 0 0] 26 (0, 0)) (by (with_reducible repeat (first | refine k1_ ?_ _ | refine k2_ ?_ | refine k3_ ?_ _)); exact BK222.out)) : gb222 ≠ gb223)); have n12_ := a0_ ((by rw [hg]; exact Nat.ne_of_gt (blk_lt (g := gb222) (o := .cells #[.bool false, .slice none 0 0] 26 (0, 0)) (by (with_reducible repeat (first | refine k1_ ?_ _ | refine k2_ ?_ | refine k3_ ?_ _)); exact BK222.out)) : gb223 ≠ gb222)); clear BK220; clear BK221; clear BK222; clear HB; have BK220 := n0_; have BK221 := n1_; have BK222 := n2_; have HB := n3_; have BK223 := n4_; have GW223 := n5_; have GE223 := n6_; have NB220_223 := n7_; have NB223_220 := n8_; have NB221_223 := n9_; have NB223_221 := n10_; have NB222_223 := n11_; have NB223_222 := n12_; clear n0_ n1_ n2_ n3_ n4_ n5_ n6_ n7_ n8_ n9_ n10_ n11_ n12_; clear hb hbox hg; have hnb10 := NB220_221.out; have hnc10 := NB221_220.out; have hnb11 := NB220_222.out; have hnc11 := NB222_220.out; have hnb12 := NB220_223.out; have hnc12 := NB223_220.out; have hcz13_0 : w9.cell? ⟨gb220, 0, none⟩ = some (.bool a0_0) := (blk_cell BK220.out 0).trans rfl; have hcz13_1 : w9.cell? ⟨gb220, 1, none⟩ = some (.slice A0_1 l0_1.length c0_1) := (blk_cell BK220.out 1).trans rfl; have hfz13_0 := blk_frozen BK220.out 0; have hfz13_1 := blk_frozen BK220.out 1; have hnb14 := NB221_222.out; have hnc14 := NB222_221.out; have hnb15 := NB221_223.out; have hnc15 := NB223_221.out; have hcz16_0 : w9.cell? ⟨gb221, 0, none⟩ = some (.bool a1_0) := (blk_cell BK221.out 0).trans rfl; have hcz16_1 : w9.cell? ⟨gb221, 1, none⟩ = some (.slice A1_1 l1_1.length c1_1) := (blk_cell BK221.out 1).trans rfl; have hfz16_0 := blk_frozen BK221.out 0; have hfz16_1 := blk_frozen BK221.out 1) | ((with_reducible refine gate_callee (f := 14) rfl ?_); refine goesL_ (some 13) rfl rfl Tryd.func14 (by kernel_rfl) rfl #[.slice A0_1 l0_1.length c0_1, .slice A1_1 l1_1.length c1_1] rfl (by (try simp only [List.map_toArray, List.map_cons, List.map_nil]); first | done | rfl | (simp only [List.length_drop, List.length_take]; rfl)) ?_; (with_reducible refine (spec_magDiv.calls k _ _ l0_1 _ _ l1_1 t224 t227 _ ?side1 ?side2 ?side3 ?side4 A3.out).mono ?_); (case side1 => repeat (first | exact (Kd.C_below HR0_1.out HB.out) | (with_reducible refine Kd.C_alloc ?_ _) | (with_reducible refine Kd.C_drewN ?_ _) | (with_reducible refine Kd.C_drew ?_))); (case side2 => exact HC0_1.out); (case side3 => repeat (first | exact (Kd.C_below HR1_1.out HB.out) | (with_reducible refine Kd.C_alloc ?_ _) | (with_reducible refine Kd.C_drewN ?_ _) | (with_reducible refine Kd.C_drew ?_))); (case side4 => exact HC1_1.out); rintro e w17 ⟨v225, v228, rfl, ho0, ho1, hb⟩; refine ⟨_, rfl, ?_⟩; have n0_ := a0_ (Kd.V_lower (v4_ (ok' := fun k_ => (w.heap.size ≤ k_) ∧ k_ ≠ gb220 ∧ k_ ≠ gb221 ∧ k_ ≠ gb222 ∧ k_ ≠ gb223) ho0 (fun k_ hk_ => ⟨(Nat.le_trans (below_size (by repeat (first | (with_reducible first | exact HB.out | apply b1_ | apply b2_ | apply b3_ | refine b4_ ?_ GE220.out | refine b4_ ?_ GE221.out | refine b4_ ?_ GE222.out | refine b4_ ?_ GE223.out) | exact HB.out))) hk_), (Kd.freshB (g := gb220) (o := .cells #[.bool a0_0, .slice A0_1 l0_1.length c0_1] 26 (0, 0)) (by (with_reducible repeat (first | refine k1_ ?_ _ | refine k2_ ?_ | refine k3_ ?_ _)); exact BK220.out) k_ hk_), (Kd.freshB (g := gb221) (o := .cells #[.bool a1_0, .slice A1_1 l1_1.length c1_1] 26 (0, 0)) (by (with_reducible repeat (first | refine k1_ ?_ _ | refine k2_ ?_ | refine k3_ ?_ _)); exact BK221.out) k_ hk_), (Kd.freshB (g := gb222) (o := .cells #[.bool false, .slice none 0 0] 26 (0, 0)) (by (with_reducible repeat (first | refine k1_ ?_ _ | refine k2_ ?_ | refine k3_ ?_ _)); exact BK222.out) k_ hk_), (Kd.freshB (g := gb223) (o := .cells #[.bool false, .slice none 0 0] 26 (0, 0)) (by (with_reducible repeat (first | refine k1_ ?_ _ | refine k2_ ?_ | refine k3_ ?_ _)); exact BK223.out) k_ hk_)⟩)) (below_size (by repeat (first | (with_reducible first | exact HB.out | apply b1_ | apply b2_ | apply b3_ | refine b4_ ?_ GE220.out | refine b4_ ?_ GE221.out | refine b4_ ?_ GE222.out | refine b4_ ?_ GE223.out) | exact HB.out)))); have n1_ := a0_ (Kd.V_lower (v4_ (ok' := fun k_ => (w.heap.size ≤ k_) ∧ k_ ≠ gb220 ∧ k_ ≠ gb221 ∧ k_ ≠ gb222 ∧ k_ ≠ gb223) ho1 (fun k_ hk_ => ⟨(Nat.le_trans (below_size (by repeat (first | (with_reducible first | exact HB.out | apply b1_ | apply b2_ | apply b3_ | refine b4_ ?_ GE220.out | refine b4_ ?_ GE221.out | refine b4_ ?_ GE222.out | refine b4_ ?_ GE223.out) | exact HB.out))) hk_), (Kd.freshB (g := gb220) (o := .cells #[.bool a0_0, .slice A0_1 l0_1.length c0_1] 26 (0, 0)) (by (with_reducible repeat (first | refine k1_ ?_ _ | refine k2_ ?_ | refine k3_ ?_ _)); exact BK220.out) k_ hk_), (Kd.freshB (g := gb221) (o := .cells #[.bool a1_0, .slice A1_1 l1_1.length c1_1] 26 (0, 0)) (by (with_reducible repeat (first | refine k1_ ?_ _ | refine k2_ ?_ | refine k3_ ?_ _)); exact BK221.out) k_ hk_), (Kd.freshB (g := gb222) (o := .cells #[.bool false, .slice none 0 0] 26 (0, 0)) (by (with_reducible repeat (first | refine k1_ ?_ _ | refine k2_ ?_ | refine k3_ ?_ _)); exact BK222.out) k_ hk_), (Kd.freshB (g := gb223) (o := .cells #[.bool false, .slice none 0 0] 26 (0, 0)) (by (with_reducible repeat (first | refine k1_ ?_ _ | refine k2_ ?_ | refine k3_ ?_ _)); exact BK223.out) k_ hk_)⟩)) (below_size (by repeat (first | (with_reducible first | exact HB.out | apply b1_ | apply b2_ | apply b3_ | refine b4_ ?_ GE220.out | refine b4_ ?_ GE221.out | refine b4_ ?_ GE222.out | refine b4_ ?_ GE223.out) | exact HB.out)))); have n2_ := a0_ (blk_below (g := gb220) (o := .cells #[.bool a0_0, .slice A0_1 l0_1.length c0_1] 26 (0, 0)) (by (with_reducible repeat (first | refine k1_ ?_ _ | refine k2_ ?_ | refine k3_ ?_ _)); exact BK220.out) hb); have n3_ := a0_ (blk_below (g := gb221) (o := .cells #[.bool a1_0, .slice A1_1 l1_1.length c1_1] 26 (0, 0)) (by (with_reducible repeat (first | refine k1_ ?_ _ | refine k2_ ?_ | refine k3_ ?_ _)); exact BK221.out) hb); have n4_ := a0_ (blk_below (g := gb222) (o := .cells #[.bool false, .slice none 0 0] 26 (0, 0)) (by (with_reducible repeat (first | refine k1_ ?_ _ | refine k2_ ?_ | refine k3_ ?_ _)); exact BK222.out) hb); have n5_ := a0_ (blk_below (g := gb223) (o := .cells #[.bool false, .slice none 0 0] 26 (0, 0)) (by (with_reducible repeat (first | refine k1_ ?_ _ | refine k2_ ?_ | refine k3_ ?_ _)); exact BK223.out) hb); have n6_ := a0_ (below_step (by repeat (first | (with_reducible first | exact HB.out | apply b1_ | apply b2_ | apply b3_ | refine b4_ ?_ GE220.out | refine b4_ ?_ GE221.out | refine b4_ ?_ GE222.out | refine b4_ ?_ GE223.out) | exact HB.out)) hb); clear BK220; clear BK221; clear BK222; clear BK223; clear HB; have HO226 := n0_; have HO229 := n1_; have BK220 := n2_; have BK221 := n3_; have BK222 := n4_; have BK223 := n5_; have HB := n6_; clear n0_ n1_ n2_ n3_ n4_ n5_ n6_; (try clear hb); (try clear hb2); (try clear hk); (try clear hi); (try clear ho0); (try clear ho1)))
 have n0_ := a0_ (v3_ HO226.out)
 have n1_ := a0_ (v3_ HO229.out)
 have n2_ := a0_ (k2_ BK220.out)
 have n3_ := a0_ (k2_ BK221.out)
 have n4_ := a0_ (k2_ BK222.out)
 have n5_ := a0_ (k2_ BK223.out)
 have n6_ := a0_ (b3_ HB.out)
 clear HO226
 clear HO229
 clear BK220
 clear BK221
 clear BK222
 clear BK223
 clear HB
 have HO226 := n0_
 have HO229 := n1_
 have BK220 := n2_
 have BK221 := n3_
 have BK222 := n4_
 have BK223 := n5_
 have HB := n6_
 clear n0_ n1_ n2_ n3_ n4_ n5_ n6_
 obtain ⟨Ao19, co19, eo19⟩ := Kd.V_slice HO226.out
 (first | subst eo19 | (injection eo19 with f1_ f2_ f3_; have f4_ := f1_.symm; have f5_ := f3_.symm; clear f1_ f2_ f3_; subst f4_; subst f5_))
 refine start_ (n := 13) (S := fun w' => w'.cell? ⟨gb220, 0, none⟩ = some (.bool a0_0) ∧ w'.cell? ⟨gb220, 1, none⟩ = some (.slice A0_1 l0_1.length c0_1) ∧ w'.cell? ⟨gb221, 0, none⟩ = some (.bool a1_0) ∧ w'.cell? ⟨gb221, 1, none⟩ = some (.slice A1_1 l1_1.length c1_1)) (ds := []) #[false, false, false, false, false, false, false, false, false, false, false, false, false] (by kernel_rfl) rfl rfl ⟨(blk_cell BK220.out 0).trans rfl, (blk_cell BK220.out 1).trans rfl, (blk_cell BK221.out 0).trans rfl, (blk_cell BK221.out 1).trans rfl⟩ (fun hHeld => ?_); refine with_tabW spec_WideDiv.tab2 spec_WideDiv.bits2 (fun HT_ HW_ => ?_)
 generalize w17.drew = w18 at HO226 HO229 BK220 BK221 BK222 BK223 HB hHeld ⊢
 refine pure_ (i := 0) (N := some 16) (v := ?_) (a' := ?_) #[true, false, false, false, false, false, false, false, false, false, false, false, false] rfl rfl (any_of HT_.out (by kernel_rfl)) (fun _ _ _ h => h) (Or.inl ⟨by rfl, ?_⟩) ?_ ?_
 rotate_left
 ·
  intro w'
  go_simp
  with_reducible rfl
 rotate_left
 ·
  simp only [Act.put, s1_, s2_, s3_, i64_w, i32_w]
  rfl
 refine pure_ (i := 2) (N := some 18) (v := ?_) (a' := ?_) #[true, false, true, false, false, false, false, false, false, false, false, false, false] rfl rfl (any_of HT_.out (by kernel_rfl)) (fun _ _ _ h => h) (Or.inl ⟨by rfl, ?_⟩) ?_ ?_
 rotate_left
 ·
  intro w'
  go_simp
  with_reducible rfl
 rotate_left
 ·
  simp only [Act.put, s1_, s2_, s3_, i64_w, i32_w]
  rfl
 refine pure_ (i := 5) (N := some 21) (v := ?_) (a' := ?_) #[true, false, true, false, false, true, false, false, false, false, false, false, false] rfl rfl (any_of HT_.out (by kernel_rfl)) (fun _ _ _ h => h) (Or.inl ⟨by rfl, ?_⟩) ?_ ?_
 rotate_left
 ·
  intro w'
  go_simp
  with_reducible rfl
 rotate_left
 ·
  simp only [Act.put, s1_, s2_, s3_, i64_w, i32_w]
  rfl
 refine pure_ (i := 7) (N := some 23) (v := ?_) (a' := ?_) #[true, false, true, false, false, true, false, true, false, false, false, false, false] rfl rfl (any_of HT_.out (by kernel_rfl)) (fun _ _ _ h => h) (Or.inl ⟨by rfl, ?_⟩) ?_ ?_
 rotate_left
 ·
  intro w'
  go_simp
  with_reducible rfl
 rotate_left
 ·
  simp only [Act.put, s1_, s2_, s3_, i64_w, i32_w]
  rfl
 refine pure_ (i := 9) (N := some 25) (v := ?_) (a' := ?_) #[true, false, true, false, false, true, false, true, false, true, false, false, false] rfl rfl (any_of HT_.out (by kernel_rfl)) (fun _ _ _ h => h) (Or.inl ⟨by rfl, ?_⟩) ?_ ?_
 rotate_left
 ·
  intro w'
  go_simp
  with_reducible rfl
 rotate_left
 ·
  simp only [Act.put, s1_, s2_, s3_, i64_w, i32_w]
  rfl
 refine take_ (i := 1) (N := some 17) (v := ?_) (a' := ?_) #[true, true, true, false, false, true, false, true, false, true, false, false, false] rfl rfl (take_ofW HT_.out HW_.out (by kernel_rfl)) (fun _ _ _ h => h) (Or.inl ⟨by rfl, ?_⟩) hHeld ?_ ?_
 rotate_left
 ·
  rintro w' ⟨s0, s1, s2, s3⟩
  go_simp
  with_reducible rfl
 rotate_left
 ·
  simp only [Act.put, s1_, s2_, s3_, i64_w, i32_w]
  rfl
 refine take_ (i := 3) (N := some 19) (v := ?_) (a' := ?_) #[true, true, true, true, false, true, false, true, false, true, false, false, false] rfl rfl (take_ofW HT_.out HW_.out (by kernel_rfl)) (fun _ _ _ h => h) (Or.inl ⟨by rfl, ?_⟩) hHeld ?_ ?_
 rotate_left
 ·
  rintro w' ⟨s0, s1, s2, s3⟩
  go_simp
  with_reducible rfl
 rotate_left
 ·
  simp only [Act.put, s1_, s2_, s3_, i64_w, i32_w]
  rfl
 refine pure_ (i := 4) (N := some 20) (v := ?_) (a' := ?_) #[true, true, true, true, true, true, false, true, false, true, false, false, false] rfl rfl (any_of HT_.out (by kernel_rfl)) (fun _ _ _ h => h) (Or.inl ⟨by rfl, ?_⟩) ?_ ?_
 rotate_left
 ·
  intro w'
  go_simp
  with_reducible rfl
 rotate_left
 ·
  simp only [Act.put, s1_, s2_, s3_, i64_w, i32_w]
  rfl
 refine take_ (i := 8) (N := some 24) (v := ?_) (a' := ?_) #[true, true, true, true, true, true, false, true, true, true, false, false, false] rfl rfl (take_ofW HT_.out HW_.out (by kernel_rfl)) (fun _ _ _ h => h) (Or.inl ⟨by rfl, ?_⟩) hHeld ?_ ?_
 rotate_left
 ·
  rintro w' ⟨s0, s1, s2, s3⟩
  go_simp
  with_reducible rfl
 rotate_left
 ·
  simp only [Act.put, s1_, s2_, s3_, i64_w, i32_w]
  rfl
 refine one_ (i := 6) (N := some 22) #[true, true, true, true, true, true, true, true, true, true, false, false, false] rfl rfl (one_of HT_.out (by kernel_rfl)) (by decide) (fun K hK => ?_)
 refine goes_ Tryd.func12 (by kernel_rfl) rfl #[.bool (a0_0 != a1_0), .slice Ao19 t224.length co19] (by rfl) rfl rfl (by (try simp only [List.map_toArray, List.map_cons, List.map_nil]); first | done | rfl | (simp only [List.length_drop, List.length_take]; rfl)) ?_
 with_reducible refine (spec_wide.calls k (a0_0 != a1_0) (fun k_ => ((w.heap.size ≤ k_) ∧ (k_ ≠ gb220 ∧ (k_ ≠ gb221 ∧ (k_ ≠ gb222 ∧ k_ ≠ gb223))))) _ _ t224 t230 t231 _ ?side1 A4.out).mono ?_
 (case side1 => exact HO226.out)
 rintro e w20 ⟨v232, rfl, ho0, hb⟩
 refine ⟨_, rfl, ?_⟩
 have n0_ := a0_ (Kd.V_below (by (with_reducible repeat (first | apply v1_ | apply v2_ | apply v3_)); exact HO226.out) hb)
 have n1_ := a0_ (Kd.V_below (by (with_reducible repeat (first | apply v1_ | apply v2_ | apply v3_)); exact HO229.out) hb)
 have n2_ := a0_ (Kd.V_lower (v4_ (ok' := fun k_ => (w.heap.size ≤ k_) ∧ k_ ≠ gb220 ∧ k_ ≠ gb221 ∧ k_ ≠ gb222 ∧ k_ ≠ gb223) ho0 (fun k_ hk_ => ⟨Or.elim hk_ (fun hs_ => hs_.1) (fun hn_ => (Nat.le_trans (below_size (by repeat (first | (with_reducible first | exact HB.out | apply b1_ | apply b2_ | apply b3_ | refine b4_ ?_ GE220.out | refine b4_ ?_ GE221.out | refine b4_ ?_ GE222.out | refine b4_ ?_ GE223.out) | exact HB.out))) hn_)), Or.elim hk_ (fun hs_ => hs_.2.1) (fun hn_ => (Kd.freshB (g := gb220) (o := .cells #[.bool a0_0, .slice A0_1 l0_1.length c0_1] 26 (0, 0)) (by (with_reducible repeat (first | refine k1_ ?_ _ | refine k2_ ?_ | refine k3_ ?_ _)); exact BK220.out) k_ hn_)), Or.elim hk_ (fun hs_ => hs_.2.2.1) (fun hn_ => (Kd.freshB (g := gb221) (o := .cells #[.bool a1_0, .slice A1_1 l1_1.length c1_1] 26 (0, 0)) (by (with_reducible repeat (first | refine k1_ ?_ _ | refine k2_ ?_ | refine k3_ ?_ _)); exact BK221.out) k_ hn_)), Or.elim hk_ (fun hs_ => hs_.2.2.2.1) (fun hn_ => (Kd.freshB (g := gb222) (o := .cells #[.bool false, .slice none 0 0] 26 (0, 0)) (by (with_reducible repeat (first | refine k1_ ?_ _ | refine k2_ ?_ | refine k3_ ?_ _)); exact BK222.out) k_ hn_)), Or.elim hk_ (fun hs_ => hs_.2.2.2.2) (fun hn_ => (Kd.freshB (g := gb223) (o := .cells #[.bool false, .slice none 0 0] 26 (0, 0)) (by (with_reducible repeat (first | refine k1_ ?_ _ | refine k2_ ?_ | refine k3_ ?_ _)); exact BK223.out) k_ hn_))⟩)) (below_size (by repeat (first | (with_reducible first | exact HB.out | apply b1_ | apply b2_ | apply b3_ | refine b4_ ?_ GE220.out | refine b4_ ?_ GE221.out | refine b4_ ?_ GE222.out | refine b4_ ?_ GE223.out) | exact HB.out))))
 have n3_ := a0_ (blk_below (g := gb220) (o := .cells #[.bool a0_0, .slice A0_1 l0_1.length c0_1] 26 (0, 0)) (by (with_reducible repeat (first | refine k1_ ?_ _ | refine k2_ ?_ | refine k3_ ?_ _)); exact BK220.out) hb)
 have n4_ := a0_ (blk_below (g := gb221) (o := .cells #[.bool a1_0, .slice A1_1 l1_1.length c1_1] 26 (0, 0)) (by (with_reducible repeat (first | refine k1_ ?_ _ | refine k2_ ?_ | refine k3_ ?_ _)); exact BK221.out) hb)
 have n5_ := a0_ (blk_below (g := gb222) (o := .cells #[.bool false, .slice none 0 0] 26 (0, 0)) (by (with_reducible repeat (first | refine k1_ ?_ _ | refine k2_ ?_ | refine k3_ ?_ _)); exact BK222.out) hb)
 have n6_ := a0_ (blk_below (g := gb223) (o := .cells #[.bool false, .slice none 0 0] 26 (0, 0)) (by (with_reducible repeat (first | refine k1_ ?_ _ | refine k2_ ?_ | refine k3_ ?_ _)); exact BK223.out) hb)
 have n7_ := a0_ (below_step (by repeat (first | (with_reducible first | exact HB.out | apply b1_ | apply b2_ | apply b3_ | refine b4_ ?_ GE220.out | refine b4_ ?_ GE221.out | refine b4_ ?_ GE222.out | refine b4_ ?_ GE223.out) | exact HB.out)) hb)
 clear HO226
 clear HO229
 clear BK220
 clear BK221
 clear BK222
 clear BK223
 clear HB
 have HO226 := n0_
 have HO229 := n1_
 have HO233 := n2_
 have BK220 := n3_
 have BK221 := n4_
 have BK222 := n5_
 have BK223 := n6_
 have HB := n7_
 clear n0_ n1_ n2_ n3_ n4_ n5_ n6_ n7_
 (try clear hb)
 (try clear hb2)
 (try clear hk)
 (try clear hi)
 (try clear ho0)
 obtain ⟨Ao21, co21, eo21⟩ := Kd.V_slice HO229.out
 (first | subst eo21 | (injection eo21 with f1_ f2_ f3_; have f4_ := f1_.symm; have f5_ := f3_.symm; clear f1_ f2_ f3_; subst f4_; subst f5_))
 refine hK.out _ _ ⟨(blk_cell BK220.out 0).trans rfl, (blk_cell BK220.out 1).trans rfl, (blk_cell BK221.out 0).trans rfl, (blk_cell BK221.out 1).trans rfl⟩ (fun hHeld => ?_)
 clear hK K
 refine norm_ (a' := ?_) ?_ ?_
 rotate_left
 ·
  show Act.put _ (some 22) _ = _
  simp only [Act.put, s1_, s2_, s3_, i64_w, i32_w]
  rfl
 refine one_ (i := 10) (N := some 26) #[true, true, true, true, true, true, true, true, true, true, true, false, false] rfl rfl (one_of HT_.out (by kernel_rfl)) (by decide) (fun K hK => ?_)
 refine goes_ Tryd.func12 (by kernel_rfl) rfl #[.bool a0_0, .slice Ao21 t227.length co21] (by rfl) rfl rfl (by (try simp only [List.map_toArray, List.map_cons, List.map_nil]); first | done | rfl | (simp only [List.length_drop, List.length_take]; rfl)) ?_
 with_reducible refine (spec_wide.calls k a0_0 (fun k_ => ((w.heap.size ≤ k_) ∧ (k_ ≠ gb220 ∧ (k_ ≠ gb221 ∧ (k_ ≠ gb222 ∧ k_ ≠ gb223))))) _ _ t227 t234 t235 _ ?side1 A5.out).mono ?_
 (case side1 => exact HO229.out)
 rintro e w22 ⟨v236, rfl, ho0, hb⟩
 refine ⟨_, rfl, ?_⟩
 have n0_ := a0_ (Kd.V_below (by (with_reducible repeat (first | apply v1_ | apply v2_ | apply v3_)); exact HO226.out) hb)
 have n1_ := a0_ (Kd.V_below (by (with_reducible repeat (first | apply v1_ | apply v2_ | apply v3_)); exact HO229.out) hb)
 have n2_ := a0_ (Kd.V_below (by (with_reducible repeat (first | apply v1_ | apply v2_ | apply v3_)); exact HO233.out) hb)
 have n3_ := a0_ (Kd.V_lower (v4_ (ok' := fun k_ => (w.heap.size ≤ k_) ∧ k_ ≠ gb220 ∧ k_ ≠ gb221 ∧ k_ ≠ gb222 ∧ k_ ≠ gb223) ho0 (fun k_ hk_ => ⟨Or.elim hk_ (fun hs_ => hs_.1) (fun hn_ => (Nat.le_trans (below_size (by repeat (first | (with_reducible first | exact HB.out | apply b1_ | apply b2_ | apply b3_ | refine b4_ ?_ GE220.out | refine b4_ ?_ GE221.out | refine b4_ ?_ GE222.out | refine b4_ ?_ GE223.out) | exact HB.out))) hn_)), Or.elim hk_ (fun hs_ => hs_.2.1) (fun hn_ => (Kd.freshB (g := gb220) (o := .cells #[.bool a0_0, .slice A0_1 l0_1.length c0_1] 26 (0, 0)) (by (with_reducible repeat (first | refine k1_ ?_ _ | refine k2_ ?_ | refine k3_ ?_ _)); exact BK220.out) k_ hn_)), Or.elim hk_ (fun hs_ => hs_.2.2.1) (fun hn_ => (Kd.freshB (g := gb221) (o := .cells #[.bool a1_0, .slice A1_1 l1_1.length c1_1] 26 (0, 0)) (by (with_reducible repeat (first | refine k1_ ?_ _ | refine k2_ ?_ | refine k3_ ?_ _)); exact BK221.out) k_ hn_)), Or.elim hk_ (fun hs_ => hs_.2.2.2.1) (fun hn_ => (Kd.freshB (g := gb222) (o := .cells #[.bool false, .slice none 0 0] 26 (0, 0)) (by (with_reducible repeat (first | refine k1_ ?_ _ | refine k2_ ?_ | refine k3_ ?_ _)); exact BK222.out) k_ hn_)), Or.elim hk_ (fun hs_ => hs_.2.2.2.2) (fun hn_ => (Kd.freshB (g := gb223) (o := .cells #[.bool false, .slice none 0 0] 26 (0, 0)) (by (with_reducible repeat (first | refine k1_ ?_ _ | refine k2_ ?_ | refine k3_ ?_ _)); exact BK223.out) k_ hn_))⟩)) (below_size (by repeat (first | (with_reducible first | exact HB.out | apply b1_ | apply b2_ | apply b3_ | refine b4_ ?_ GE220.out | refine b4_ ?_ GE221.out | refine b4_ ?_ GE222.out | refine b4_ ?_ GE223.out) | exact HB.out))))
 have n4_ := a0_ (blk_below (g := gb220) (o := .cells #[.bool a0_0, .slice A0_1 l0_1.length c0_1] 26 (0, 0)) (by (with_reducible repeat (first | refine k1_ ?_ _ | refine k2_ ?_ | refine k3_ ?_ _)); exact BK220.out) hb)
 have n5_ := a0_ (blk_below (g := gb221) (o := .cells #[.bool a1_0, .slice A1_1 l1_1.length c1_1] 26 (0, 0)) (by (with_reducible repeat (first | refine k1_ ?_ _ | refine k2_ ?_ | refine k3_ ?_ _)); exact BK221.out) hb)
 have n6_ := a0_ (blk_below (g := gb222) (o := .cells #[.bool false, .slice none 0 0] 26 (0, 0)) (by (with_reducible repeat (first | refine k1_ ?_ _ | refine k2_ ?_ | refine k3_ ?_ _)); exact BK222.out) hb)
 have n7_ := a0_ (blk_below (g := gb223) (o := .cells #[.bool false, .slice none 0 0] 26 (0, 0)) (by (with_reducible repeat (first | refine k1_ ?_ _ | refine k2_ ?_ | refine k3_ ?_ _)); exact BK223.out) hb)
 have n8_ := a0_ (below_step (by repeat (first | (with_reducible first | exact HB.out | apply b1_ | apply b2_ | apply b3_ | refine b4_ ?_ GE220.out | refine b4_ ?_ GE221.out | refine b4_ ?_ GE222.out | refine b4_ ?_ GE223.out) | exact HB.out)) hb)
 clear HO226
 clear HO229
 clear HO233
 clear BK220
 clear BK221
 clear BK222
 clear BK223
 clear HB
 have HO226 := n0_
 have HO229 := n1_
 have HO233 := n2_
 have HO237 := n3_
 have BK220 := n4_
 have BK221 := n5_
 have BK222 := n6_
 have BK223 := n7_
 have HB := n8_
 clear n0_ n1_ n2_ n3_ n4_ n5_ n6_ n7_ n8_
 (try clear hb)
 (try clear hb2)
 (try clear hk)
 (try clear hi)
 (try clear ho0)
 obtain ⟨Ao24, co24, eo24⟩ := Kd.V_slice HO233.out
 (first | subst eo24 | (injection eo24 with f1_ f2_ f3_; have f4_ := f1_.symm; have f5_ := f3_.symm; clear f1_ f2_ f3_; subst f4_; subst f5_))
 obtain ⟨Ao27, co27, eo27⟩ := Kd.V_slice HO237.out
 (first | subst eo27 | (injection eo27 with f1_ f2_ f3_; have f4_ := f1_.symm; have f5_ := f3_.symm; clear f1_ f2_ f3_; subst f4_; subst f5_))
 refine hK.out _ _ ⟨(blk_cell BK220.out 0).trans rfl, (blk_cell BK220.out 1).trans rfl, (blk_cell BK221.out 0).trans rfl, (blk_cell BK221.out 1).trans rfl⟩ (fun hHeld => ?_)
 clear hK K
 refine norm_ (a' := ?_) ?_ ?_
 rotate_left
 ·
  show Act.put _ (some 26) _ = _
  simp only [Act.put, s1_, s2_, s3_, i64_w, i32_w]
  rfl
 refine one_ (i := 11) (N := none) #[true, true, true, true, true, true, true, true, true, true, true, true, false] rfl rfl (one_of HT_.out (by kernel_rfl)) (by decide) (fun K hK => ?_)
 have hs23 : w22.cell? ⟨gb222, 0, none⟩ = some (.bool false) := (blk_cell BK222.out 0).trans rfl
 have hfs23 := blk_frozen BK222.out 0
 have hns23_0 := NB220_222.out
 have hns23_1 := NB221_222.out
 have hns23_3 := NB223_222.out
 have hms23_0 := NB222_220.out
 have hms23_1 := NB222_221.out
 have hms23_3 := NB222_223.out
 have hs25 : w22.cell? ⟨gb222, 1, none⟩ = some (.slice none 0 0) := (blk_cell BK222.out 1).trans rfl
 have hfs25 := blk_frozen BK222.out 1
 have hns25_0 := NB220_222.out
 have hns25_1 := NB221_222.out
 have hns25_3 := NB223_222.out
 have hms25_0 := NB222_220.out
 have hms25_1 := NB222_221.out
 have hms25_3 := NB222_223.out
 refine skip_ (w1 := ?_) (by rfl) rfl ?_ ?_
 rotate_left
 ·
  go_simp
  rfl
 refine hK.out _ _ ⟨((cell_far (p := ⟨gb222, _, none⟩) NB220_222.out _).trans (((cell_far (p := ⟨gb222, _, none⟩) NB220_222.out _).trans (hHeld.1)))), ((cell_far (p := ⟨gb222, _, none⟩) NB220_222.out _).trans (((cell_far (p := ⟨gb222, _, none⟩) NB220_222.out _).trans (hHeld.2.1)))), ((cell_far (p := ⟨gb222, _, none⟩) NB221_222.out _).trans (((cell_far (p := ⟨gb222, _, none⟩) NB221_222.out _).trans (hHeld.2.2.1)))), ((cell_far (p := ⟨gb222, _, none⟩) NB221_222.out _).trans (((cell_far (p := ⟨gb222, _, none⟩) NB221_222.out _).trans (hHeld.2.2.2))))⟩ (fun hHeld => ?_)
 clear hK K
 refine one_ (i := 12) (N := none) #[true, true, true, true, true, true, true, true, true, true, true, true, true] rfl rfl (one_of HT_.out (by kernel_rfl)) (by decide) (fun K hK => ?_)
 have hs26 : w22.cell? ⟨gb223, 0, none⟩ = some (.bool false) := (blk_cell BK223.out 0).trans rfl
 have hfs26 := blk_frozen BK223.out 0
 have hns26_0 := NB220_223.out
 have hns26_1 := NB221_223.out
 have hns26_2 := NB222_223.out
 have hms26_0 := NB223_220.out
 have hms26_1 := NB223_221.out
 have hms26_2 := NB223_222.out
 have hs28 : w22.cell? ⟨gb223, 1, none⟩ = some (.slice none 0 0) := (blk_cell BK223.out 1).trans rfl
 have hfs28 := blk_frozen BK223.out 1
 have hns28_0 := NB220_223.out
 have hns28_1 := NB221_223.out
 have hns28_2 := NB222_223.out
 have hms28_0 := NB223_220.out
 have hms28_1 := NB223_221.out
 have hms28_2 := NB223_222.out
 refine skip_ (w1 := ?_) (by rfl) rfl ?_ ?_
 rotate_left
 ·
  go_simp
  rfl
 refine hK.out _ _ ⟨((cell_far (p := ⟨gb223, _, none⟩) NB220_223.out _).trans (((cell_far (p := ⟨gb223, _, none⟩) NB220_223.out _).trans (hHeld.1)))), ((cell_far (p := ⟨gb223, _, none⟩) NB220_223.out _).trans (((cell_far (p := ⟨gb223, _, none⟩) NB220_223.out _).trans (hHeld.2.1)))), ((cell_far (p := ⟨gb223, _, none⟩) NB221_223.out _).trans (((cell_far (p := ⟨gb223, _, none⟩) NB221_223.out _).trans (hHeld.2.2.1)))), ((cell_far (p := ⟨gb223, _, none⟩) NB221_223.out _).trans (((cell_far (p := ⟨gb223, _, none⟩) NB221_223.out _).trans (hHeld.2.2.2))))⟩ (fun hHeld => ?_)
 clear hK K
 refine done_ (done_of HT_.out (by kernel_rfl)) ?_
 try go_wp2
 refine bodyPost_ret (results_cc rfl _ _ gb222 gb223 26 26 #[.bool t230, .slice Ao24 t231.length co24] #[.bool t234, .slice Ao27 t235.length co27] (0, 0) (0, 0) _ _ rfl (by (with_reducible repeat (first | refine k1_ ?_ _ | refine k2_ ?_ | refine k3_ ?_ _)); refine blk_far ?_ NB222_223.out _; (with_reducible repeat (first | refine k1_ ?_ _ | refine k2_ ?_ | refine k3_ ?_ _)); refine blk_far ?_ NB222_223.out _; (with_reducible repeat (first | refine k1_ ?_ _ | refine k2_ ?_ | refine k3_ ?_ _)); refine blk_put (cs := #[.bool t230, .slice none 0 0]) ?_ 1 _ rfl; (with_reducible repeat (first | refine k1_ ?_ _ | refine k2_ ?_ | refine k3_ ?_ _)); refine blk_put (cs := #[.bool false, .slice none 0 0]) ?_ 0 _ rfl; (with_reducible repeat (first | refine k1_ ?_ _ | refine k2_ ?_ | refine k3_ ?_ _)); exact BK222.out) Tryd.underlying26 rfl (by kernel_rfl) rfl (by (with_reducible repeat (first | refine k1_ ?_ _ | refine k2_ ?_ | refine k3_ ?_ _)); refine blk_put (cs := #[.bool t234, .slice none 0 0]) ?_ 1 _ rfl; (with_reducible repeat (first | refine k1_ ?_ _ | refine k2_ ?_ | refine k3_ ?_ _)); refine blk_put (cs := #[.bool false, .slice none 0 0]) ?_ 0 _ rfl; (with_reducible repeat (first | refine k1_ ?_ _ | refine k2_ ?_ | refine k3_ ?_ _)); refine blk_far ?_ NB223_222.out _; (with_reducible repeat (first | refine k1_ ?_ _ | refine k2_ ?_ | refine k3_ ?_ _)); refine blk_far ?_ NB223_222.out _; (with_reducible repeat (first | refine k1_ ?_ _ | refine k2_ ?_ | refine k3_ ?_ _)); exact BK223.out) Tryd.underlying26 rfl (by kernel_rfl)) rfl ?_
 exact ⟨_, _, by first | rfl | (simp [e1_, e2_] <;> rfl) | (simp [*, e1_, e2_] <;> rfl), by (with_reducible repeat (first | apply v1_ | apply v2_ | apply v3_)); exact v4_ (v5_ (p := ⟨gb223, 1, none⟩) (v5_ (p := ⟨gb223, 0, none⟩) (v5_ (p := ⟨gb222, 1, none⟩) (v5_ (p := ⟨gb222, 0, none⟩) (v4_ (v4_ HO233.out (fun k_ hk => (⟨hk, hk.2.2.2.1⟩ : _ ∧ k_ ≠ gb222))) (fun k_ hk => (⟨hk, hk.1.2.2.2.2⟩ : _ ∧ k_ ≠ gb223))) (fun _ hk => hk.1.2) (.bool t230)) (fun _ hk => hk.1.2) (.slice Ao24 t231.length co24)) (fun _ hk => hk.2) (.bool t234)) (fun _ hk => hk.2) (.slice Ao27 t235.length co27)) (fun _ hk => hk.1.1.1), by (with_reducible repeat (first | apply v1_ | apply v2_ | apply v3_)); exact v4_ (v5_ (p := ⟨gb223, 1, none⟩) (v5_ (p := ⟨gb223, 0, none⟩) (v5_ (p := ⟨gb222, 1, none⟩) (v5_ (p := ⟨gb222, 0, none⟩) (v4_ (v4_ HO237.out (fun k_ hk => (⟨hk, hk.2.2.2.1⟩ : _ ∧ k_ ≠ gb222))) (fun k_ hk => (⟨hk, hk.1.2.2.2.2⟩ : _ ∧ k_ ≠ gb223))) (fun _ hk => hk.1.2) (.bool t230)) (fun _ hk => hk.1.2) (.slice Ao24 t231.length co24)) (fun _ hk => hk.2) (.bool t234)) (fun _ hk => hk.2) (.slice Ao27 t235.length co27)) (fun _ hk => hk.1.1.1), by repeat (first | (with_reducible first | exact HB.out | apply b1_ | apply b2_ | apply b3_ | refine b4_ ?_ GE220.out | refine b4_ ?_ GE221.out | refine b4_ ?_ GE222.out | refine b4_ ?_ GE223.out) | exact HB.out)⟩

/-! ### spec_Two: function 15 -/
def spec_Two.f (k : Nat) (a0 : Int) : Option (Bool × List Int) := if 0 ≤ (wrap64 ((wrap64 (Int.tdiv a0 32)) + 1)) then (if (wrap64 ((wrap64 (Int.tdiv a0 32)) + 1) : Int).toNat ≤ 70368744177664 then ((some (List.replicate (wrap64 ((wrap64 (Int.tdiv a0 32)) + 1) : Int).toNat 0 : List Int)).bind fun y239 => (if 0 ≤ (Int.tmod a0 32) then (if 0 ≤ (wrap64 (Int.tdiv a0 32)) then (if (wrap64 (Int.tdiv a0 32)) < (y239.length : Int) then ((spec_wide.f k false (y239.set ((wrap64 (Int.tdiv a0 32)) : Int).toNat (shl .u32 1 (Int.tmod a0 32)))).bind fun bt243 => (some (bt243.1, bt243.2))) else (none)) else (none)) else (none))) else (none)) else (none)
set_option maxHeartbeats 8000000 in
set_option maxRecDepth 100000 in
theorem spec_Two.calls (k : Nat) (a0 : Int) (r1 : Bool) (r2 : List Int) (w : World) (h : spec_Two.f k a0 = some (r1, r2)) :
  Calls Tryd.prog 15 #[.int .i64 a0] w fun e w' => ∃ v1_ : Value, e = .returned (.agg #[.bool r1, v1_]) ∧ Kd.V (Kd.int .u32) 40 w' w.heap.size (fun k_ => (w.heap.size ≤ k_)) v1_ r2 ∧ Below w.heap.size w w' := by
 have hu26 := Tryd.underlying26
 have HB := a0_ (Below.refl w.heap.size w)
 have H : (if 0 ≤ (wrap64 ((wrap64 (Int.tdiv a0 32)) + 1)) then (if (wrap64 ((wrap64 (Int.tdiv a0 32)) + 1) : Int).toNat ≤ 70368744177664 then ((some (List.replicate (wrap64 ((wrap64 (Int.tdiv a0 32)) + 1) : Int).toNat 0 : List Int)).bind fun y239 => (if 0 ≤ (Int.tmod a0 32) then (if 0 ≤ (wrap64 (Int.tdiv a0 32)) then (if (wrap64 (Int.tdiv a0 32)) < (y239.length : Int) then ((spec_wide.f k false (y239.set ((wrap64 (Int.tdiv a0 32)) : Int).toNat (shl .u32 1 (Int.tmod a0 32)))).bind fun bt243 => (some (bt243.1, bt243.2))) else (none)) else (none)) else (none))) else (none)) else (none)) = some (r1, r2) := h
 clear h
 obtain ⟨ji2, hji2⟩ : ∃ j_ : Int, (wrap64 ((wrap64 (Int.tdiv a0 32)) + 1)) = j_ := ⟨_, rfl⟩
 replace H : (if 0 ≤ (ji2) then (if (ji2 : Int).toNat ≤ 70368744177664 then ((some (List.replicate (ji2 : Int).toNat 0 : List Int)).bind fun y239 => (if 0 ≤ (Int.tmod a0 32) then (if 0 ≤ (wrap64 (Int.tdiv a0 32)) then (if (wrap64 (Int.tdiv a0 32)) < (y239.length : Int) then ((spec_wide.f k false (y239.set ((wrap64 (Int.tdiv a0 32)) : Int).toNat (shl .u32 1 (Int.tmod a0 32)))).bind fun bt243 => (some (bt243.1, bt243.2))) else (none)) else (none)) else (none))) else (none)) else (none)) = some (r1, r2) := by first | (rw [hji2] at H; exact H) | (simp only [hji2] at H ⊢; exact H)
 have hji2w : (IntKind.i64.wrap ((wrap64 (Int.tdiv a0 32)) + 1)) = ji2 := (i64_w _).trans hji2
 by_cases c3 : 0 ≤ (ji2)
 ·
  rw [if_pos c3] at H
  have c3b0 := eq_true c3
  have c3b1 : decide (0 ≤ (ji2)) = true := d2_ c3
  clear c3
  by_cases c4 : (ji2 : Int).toNat ≤ 70368744177664
  ·
   rw [if_pos c4] at H
   have c4b0 := eq_true c4
   have c4b1 : decide ((ji2 : Int).toNat ≤ 70368744177664) = true := d2_ c4
   clear c4
   obtain ⟨y239, hy239⟩ : ∃ y_ : List Int, y_ = (List.replicate (ji2 : Int).toNat 0) := ⟨_, rfl⟩
   replace H : (if 0 ≤ (Int.tmod a0 32) then (if 0 ≤ (wrap64 (Int.tdiv a0 32)) then (if (wrap64 (Int.tdiv a0 32)) < (y239.length : Int) then ((spec_wide.f k false (y239.set ((wrap64 (Int.tdiv a0 32)) : Int).toNat (shl .u32 1 (Int.tmod a0 32)))).bind fun bt243 => (some (bt243.1, bt243.2))) else (none)) else (none)) else (none)) = some (r1, r2) := by first | (rw [hy239]; with_reducible exact H) | (have H2_ := (o2_ _ _).symm.trans H; rw [hy239]; with_reducible exact H2_) | (have H2_ := (o2_ _ _).symm.trans H; with_reducible exact H2_) | with_reducible exact H | (rw [hy239]; exact H) | exact H
   have Ny239 := a0_ hy239
   clear hy239
   obtain ⟨ji5, hji5⟩ : ∃ j_ : Int, (Int.tmod a0 32) = j_ := ⟨_, rfl⟩
   replace H : (if 0 ≤ (ji5) then (if 0 ≤ (wrap64 (Int.tdiv a0 32)) then (if (wrap64 (Int.tdiv a0 32)) < (y239.length : Int) then ((spec_wide.f k false (y239.set ((wrap64 (Int.tdiv a0 32)) : Int).toNat (shl .u32 1 (ji5)))).bind fun bt243 => (some (bt243.1, bt243.2))) else (none)) else (none)) else (none)) = some (r1, r2) := by first | (rw [hji5] at H; exact H) | (simp only [hji5] at H ⊢; exact H)
   by_cases c6 : 0 ≤ (ji5)
   ·
    rw [if_pos c6] at H
    have c6b0 := eq_true c6
    have c6b1 : decide (0 ≤ (ji5)) = true := d2_ c6
    clear c6
    obtain ⟨ji7, hji7⟩ : ∃ j_ : Int, (shl .u32 1 (ji5)) = j_ := ⟨_, rfl⟩
    replace H : (if 0 ≤ (wrap64 (Int.tdiv a0 32)) then (if (wrap64 (Int.tdiv a0 32)) < (y239.length : Int) then ((spec_wide.f k false (y239.set ((wrap64 (Int.tdiv a0 32)) : Int).toNat (ji7))).bind fun bt243 => (some (bt243.1, bt243.2))) else (none)) else (none)) = some (r1, r2) := by first | (rw [hji7] at H; exact H) | (simp only [hji7] at H ⊢; exact H)
    have hji7_ : (IntKind.u32.wrap (1 * 2 ^ min (ji5).toNat 32)) = ji7 := hji7
    have hji7z : (ji5) ≤ 32 → (IntKind.u32.wrap (1 * 2 ^ (ji5).toNat)) = ji7 := shl_small hji7
    have hji7u : (IntKind.u32.wrap (2 ^ min (ji5).toNat 32)) = ji7 := by have h_ := hji7_; rw [Int.one_mul] at h_; exact h_
    have hji7v : (ji5) ≤ 32 → (IntKind.u32.wrap (2 ^ (ji5).toNat)) = ji7 := fun hle_ => by have h_ := hji7z hle_; rw [Int.one_mul] at h_; exact h_
    obtain ⟨ji8, hji8⟩ : ∃ j_ : Int, (wrap64 (Int.tdiv a0 32)) = j_ := ⟨_, rfl⟩
    replace H : (if 0 ≤ (ji8) then (if (ji8) < (y239.length : Int) then ((spec_wide.f k false (y239.set ((ji8) : Int).toNat (ji7))).bind fun bt243 => (some (bt243.1, bt243.2))) else (none)) else (none)) = some (r1, r2) := by first | (rw [hji8] at H; exact H) | (simp only [hji8] at H ⊢; exact H)
    have hji8w : (IntKind.i64.wrap (Int.tdiv a0 32)) = ji8 := (i64_w _).trans hji8
    (try rw [hji8] at hji2); (try rw [hji8] at hji2w); (try rw [hji8w] at hji2w)
    by_cases c9 : 0 ≤ (ji8)
    ·
     rw [if_pos c9] at H
     have c9b0 : decide (0 ≤ (ji8)) = true := d2_ c9
     clear c9
     by_cases c10 : (ji8) < (y239.length : Int)
     ·
      rw [if_pos c10] at H
      have c10b0 : decide ((ji8) < (y239.length : Int)) = true := d2_ c10
      clear c10
      obtain ⟨y242, hy242⟩ : ∃ y_ : List Int, y_ = (y239.set ((ji8) : Int).toNat (ji7)) := ⟨_, rfl⟩
      replace H : ((spec_wide.f k false y242).bind fun bt243 => (some (bt243.1, bt243.2))) = some (r1, r2) := by first | (rw [hy242]; with_reducible exact H) | (have H2_ := (o2_ _ _).symm.trans H; rw [hy242]; with_reducible exact H2_) | (have H2_ := (o2_ _ _).symm.trans H; with_reducible exact H2_) | with_reducible exact H | (rw [hy242]; exact H) | exact H
      have Ny242 := a0_ hy242
      clear hy242
      replace H := Option.bind_eq_some_iff.mp H
      obtain ⟨⟨t243, t244⟩, A120, H⟩ := H
      replace H : (some (t243, t244)) = some (r1, r2) := H
      have A12 := a0_ A120
      clear A120
      simp only [Option.some.injEq, Prod.mk.injEq] at H
      obtain ⟨rfl, rfl⟩ := H
      go_enter Tryd.func15, Tryd.ntmps15
      go_wp2_with (first | ((with_reducible refine gate_dst (N := 2) rfl ?_); refine box_event ?hg (N := 2) ?hd (cs := #[.bool false, .slice none 0 0]) (t := 26) ?hr ?_; (case hd => rfl); (case hg => rfl); (case hr => first | (go_simp; done) | (go_simp; rfl)); intro gb238 hg w13 hbox hb; have n0_ := a0_ (below_step (by repeat (first | (with_reducible first | exact HB.out | apply b1_ | apply b2_ | apply b3_) | exact HB.out)) hb); have n1_ := a0_ (hbox); have n2_ := a0_ ((by rw [hg]; exact (below_size (by repeat (first | (with_reducible first | exact HB.out | apply b1_ | apply b2_ | apply b3_) | exact HB.out))) : w.heap.size ≤ gb238)); have n3_ := a0_ ((by rw [hg]; exact (below_size (by repeat (first | (with_reducible first | exact HB.out | apply b1_ | apply b2_ | apply b3_) | exact HB.out))) : w.heap.size ≤ gb238)); clear HB; have HB := n0_; have BK238 := n1_; have GW238 := n2_; have GE238 := n3_; clear n0_ n1_ n2_ n3_; clear hb hbox hg) | ((with_reducible refine gate_dst (N := 7) rfl ?_); refine Kd.R_make (Kd.int .u32) _ 40 rfl (N := 7) rfl 24 _ _ rfl ji2 rfl rfl Tryd.underlying24 (.int .u32 0) 4 info40 rfl (by decide) (by omega) 0 (ok := fun _ => True) (okp := fun _ => True) rfl (fun _ hk => hk) trivial (d1_ (by first | (with_reducible assumption) | assumption)) (Nat.le_trans (Nat.mul_le_mul_right _ (d1_ (by first | (with_reducible assumption) | assumption) : ji2.toNat ≤ 70368744177664)) (by omega)) (Below.refl _ _) (Nat.le_refl _) ?_; intro v240 w14 ho15 hb hg_ hnew_; clear hg_ hnew_; (first | rw [← Ny239.out] at ho15 | (simp only [Int.reduceToNat] at ho15; rw [← Ny239.out] at ho15)); have n0_ := a0_ (Kd.R_lower (Kd.R_newM (M := fun k_ => (w.heap.size ≤ k_)) ho15 (below_size (by repeat (first | (with_reducible first | exact HB.out | apply b1_ | apply b2_ | apply b3_ | refine b4_ ?_ GE238.out) | exact HB.out))) (fun k_ h_ => h_)) (below_size (by repeat (first | (with_reducible first | exact HB.out | apply b1_ | apply b2_ | apply b3_ | refine b4_ ?_ GE238.out) | exact HB.out)))); have n1_ := a0_ (blk_below (g := gb238) (o := .cells #[.bool false, .slice none 0 0] 26 (0, 0)) (by (with_reducible repeat (first | refine k1_ ?_ _ | refine k2_ ?_ | refine k3_ ?_ _)); exact BK238.out) hb); have n2_ := a0_ (below_step (by repeat (first | (with_reducible first | exact HB.out | apply b1_ | apply b2_ | apply b3_ | refine b4_ ?_ GE238.out) | exact HB.out)) hb); clear BK238; clear HB; have HO241 := n0_; have BK238 := n1_; have HB := n2_; clear n0_ n1_ n2_; clear hb ho15; have p11 : 0 ≤ ((ji8) : Int) := d1_ (by first | (with_reducible assumption) | assumption); have q11 : ((ji8) : Int) < ((y239.length : Int) : Int) := d1_ (by first | (with_reducible assumption) | assumption); obtain ⟨go11, co11, eo11, gb11, gl11, cl11, HG11⟩ := Kd.R_form HO241.out (by omega); (first | cases eo11 | (injection eo11 with ea_ en_ ec_; (first | subst ea_ | (injection ea_ with ea_; subst ea_)); subst ec_; clear en_)); have GB11 := a0_ gb11; have GG11 := a0_ HG11; clear gb11 gl11 HG11; obtain ⟨hx11_0, hf11_0⟩ := Kd.R_celln 0 HO241.out ((ji8) : Int) p11 q11; replace p11 := eq_true p11; replace q11 := eq_true q11; have n_ := a0_ (Kd.R_mono (ok' := (fun k_ => (w.heap.size ≤ k_))) HO241.out (fun k_ hk => hk.1)); clear HO241; have HO241 := n_; clear n_; obtain ⟨hy16_, hz16_⟩ := Kd.R_celln 0 HO241.out ((ji8) : Int) (d1_ (by first | (with_reducible assumption) | assumption)) (d1_ (by first | (with_reducible assumption) | assumption)); have HP16 := Kd.R_putg HO241.out ((ji8) : Int) ji7) | ((with_reducible refine gate_store (t := 40) (p := 14) rfl ?_); refine store_event (t := 40) (p := 14) (v := ?vo_w17) (w1 := (w14.setCell ⟨go11, ((ji8) : Int).toNat, none⟩ (.int .u32 ji7))) ?hg ?ho ?hn ?hr ?_; (case ho => rfl); (case hg => rfl); (case hn => rfl); (case hr => first | (go_simp; done) | (go_simp; rfl)); intro w17 hw; have hg : w14.grownBy w17 (some go11) := (by rw [hw]; exact HP16.2); have hp_ : Kd.R (Kd.int .u32) 40 w17 w.heap.size (fun k_ => (w.heap.size ≤ k_)) (.slice (some ⟨go11, 0, none⟩) y239.length co11) y242 := (by rw [hw, Ny242.out]; exact HP16.1); clear HP16; have n0_ := a0_ (blk_grown (g := gb238) (o := .cells #[.bool false, .slice none 0 0] 26 (0, 0)) (by (with_reducible repeat (first | refine k1_ ?_ _ | refine k2_ ?_ | refine k3_ ?_ _)); exact BK238.out) hg (Kd.R_ne HO241.out BK238.out (by decide))); have n1_ := a0_ (hp_); have n2_ := a0_ ((by rw [hw]; exact b4_ (HB.out) GB11.out : Below w.heap.size w w17)); clear BK238; clear HO241; clear HB; have BK238 := n0_; have HO241 := n1_; have HB := n2_; clear n0_ n1_ n2_; clear hg hw hp_) | ((with_reducible refine gate_callee (f := 12) rfl ?_); refine goesL_ (some 16) rfl rfl Tryd.func12 (by kernel_rfl) rfl #[.bool false, .slice (some ⟨go11, 0, none⟩) y242.length co11] rfl (by (try simp only [List.map_toArray, List.map_cons, List.map_nil]); first | done | (rw [show y242.length = y239.length from (Kd.R_reads' HO241.out).1.symm] <;> rfl) | rfl | (simp only [List.length_drop, List.length_take]; rfl)) ?_; (with_reducible refine (spec_wide.calls k false (fun k_ => some k_ = (.slice (some ⟨go11, 0, none⟩) y239.length co11 : Value).ownBlock) _ _ y242 t243 t244 _ ?side1 A12.out).mono ?_); (case side1 => rw [show y242.length = y239.length from (Kd.R_reads' HO241.out).1.symm]; exact Kd.R_V (Kd.R_tight rfl (Kd.R_types (HO241.out) BK238.out (by decide)))); rintro e w18 ⟨v245, rfl, ho0, hb⟩; refine ⟨_, rfl, ?_⟩; have n0_ := a0_ (Kd.R_below (by (with_reducible repeat (first | apply r1_ | apply r2_ | apply r3_)); exact HO241.out) hb); have n1_ := a0_ (Kd.V_lower (v4_ (ok' := fun k_ => (w.heap.size ≤ k_) ∧ k_ ≠ gb238) ho0 (fun k_ hk_ => ⟨Or.elim hk_ (fun hs_ => ((Kd.R_types (HO241.out) BK238.out (by decide)).1 k_ hs_.symm).1) (fun hn_ => (Nat.le_trans (below_size (by repeat (first | (with_reducible first | exact HB.out | apply b1_ | apply b2_ | apply b3_ | refine b4_ ?_ GE238.out) | exact HB.out))) hn_)), Or.elim hk_ (fun hs_ => ((Kd.R_types (HO241.out) BK238.out (by decide)).1 k_ hs_.symm).2) (fun hn_ => (Kd.freshB (g := gb238) (o := .cells #[.bool false, .slice none 0 0] 26 (0, 0)) (by (with_reducible repeat (first | refine k1_ ?_ _ | refine k2_ ?_ | refine k3_ ?_ _)); exact BK238.out) k_ hn_))⟩)) (below_size (by repeat (first | (with_reducible first | exact HB.out | apply b1_ | apply b2_ | apply b3_ | refine b4_ ?_ GE238.out) | exact HB.out)))); have n2_ := a0_ (blk_below (g := gb238) (o := .cells #[.bool false, .slice none 0 0] 26 (0, 0)) (by (with_reducible repeat (first | refine k1_ ?_ _ | refine k2_ ?_ | refine k3_ ?_ _)); exact BK238.out) hb); have n3_ := a0_ (below_step (by repeat (first | (with_reducible first | exact HB.out | apply b1_ | apply b2_ | apply b3_ | refine b4_ ?_ GE238.out) | exact HB.out)) hb); clear HO241; clear BK238; clear HB; have HO241 := n0_; have HO246 := n1_; have BK238 := n2_; have HB := n3_; clear n0_ n1_ n2_ n3_; (try clear hb); (try clear hb2); (try clear hk); (try clear hi); (try clear ho0); have hcz19_0 : w18.cell? ⟨gb238, 0, none⟩ = some (.bool false) := (blk_cell BK238.out 0).trans rfl; have hcz19_1 : w18.cell? ⟨gb238, 1, none⟩ = some (.slice none 0 0) := (blk_cell BK238.out 1).trans rfl; have hfz19_0 := blk_frozen BK238.out 0; have hfz19_1 := blk_frozen BK238.out 1; obtain ⟨Ao20, co20, eo20⟩ := Kd.V_slice HO246.out; subst eo20))
      refine bodyPost_ret (results_cell_row rfl _ _ gb238 26 #[.bool t243, .slice Ao20 t244.length co20] (0, 0) _ rfl (by (with_reducible repeat (first | refine k1_ ?_ _ | refine k2_ ?_ | refine k3_ ?_ _)); refine blk_put (cs := #[.bool t243, .slice none 0 0]) ?_ 1 _ rfl; (with_reducible repeat (first | refine k1_ ?_ _ | refine k2_ ?_ | refine k3_ ?_ _)); refine blk_put (cs := #[.bool false, .slice none 0 0]) ?_ 0 _ rfl; (with_reducible repeat (first | refine k1_ ?_ _ | refine k2_ ?_ | refine k3_ ?_ _)); exact BK238.out) Tryd.underlying26 rfl (by kernel_rfl)) rfl ?_
      exact ⟨_, by first | rfl | (simp [e1_, e2_] <;> rfl) | (simp only [← hji2, ← hji5, ← hji7, ← hji8]; first | rfl | (simp [e1_, e2_] <;> rfl)) | (simp [*, e1_, e2_] <;> rfl), by (with_reducible repeat (first | apply v1_ | apply v2_ | apply v3_)); exact v4_ (v5_ (p := ⟨gb238, 1, none⟩) (v5_ (p := ⟨gb238, 0, none⟩) (v4_ HO246.out (fun k_ hk => (⟨hk, hk.2⟩ : _ ∧ k_ ≠ gb238))) (fun _ hk => hk.2) (.bool t243)) (fun _ hk => hk.2) (.slice Ao20 t244.length co20)) (fun _ hk => hk.1.1), by repeat (first | (with_reducible first | exact HB.out | apply b1_ | apply b2_ | apply b3_ | refine b4_ ?_ GE238.out) | exact HB.out)⟩
     ·
      rw [if_neg c10] at H
      exact absurd H (by simp)
    ·
     rw [if_neg c9] at H
     exact absurd H (by simp)
   ·
    rw [if_neg c6] at H
    exact absurd H (by simp)
  ·
   rw [if_neg c4] at H
   exact absurd H (by simp)
 ·
  rw [if_neg c3] at H
  exact absurd H (by simp)

/-! ### spec_WideCmp: function 16 -/
mutual
def spec_WideCmp.j0 : Nat → Bool → Bool → List Int → Bool → List Int → Option (Int)
 | 0, _, _, _, _, _ => none
 | k + 1, x5, x248000, x248001, x249000, x249001 => if x5 = true then (some (-1)) else (if x248000 = true then (spec_WideCmp.j1 k false x248000 x248001 x249000 x249001) else (spec_WideCmp.j1 k x249000 x248000 x248001 x249000 x249001))
def spec_WideCmp.j1 : Nat → Bool → Bool → List Int → Bool → List Int → Option (Int)
 | 0, _, _, _, _, _ => none
 | k + 1, x13, x248000, x248001, x249000, x249001 => if x13 = true then (some 1) else (if x248000 = true then ((spec_magCmp.f k x248001 x249001).bind fun t249 => (some (wrap64 (-t249)))) else ((spec_magCmp.f k x248001 x249001).bind fun t250 => (some t250)))
end
def spec_WideCmp.f (k : Nat) (a0_0 : Bool) (l0_1 : List Int) (a1_0 : Bool) (l1_1 : List Int) : Option (Int) := if a0_0 = true then (spec_WideCmp.j0 k (!a1_0) a0_0 l0_1 a1_0 l1_1) else (spec_WideCmp.j0 k false a0_0 l0_1 a1_0 l1_1)
set_option maxHeartbeats 8000000 in
set_option maxRecDepth 100000 in
theorem spec_WideCmp.calls (k : Nat) (a0_0 : Bool) (A0_1 : Option Addr) (c0_1 : Nat) (l0_1 : List Int) (a1_0 : Bool) (A1_1 : Option Addr) (c1_1 : Nat) (l1_1 : List Int) (r : Int) (w : World) (hr0_1 : Kd.C (Kd.int .u32) w A0_1 l0_1.length l0_1) (hc0_1 : l0_1.length ≤ c0_1) (hr1_1 : Kd.C (Kd.int .u32) w A1_1 l1_1.length l1_1) (hc1_1 : l1_1.length ≤ c1_1) (h : spec_WideCmp.f k a0_0 l0_1 a1_0 l1_1 = some r) :
  Calls Tryd.prog 16 #[.agg #[.bool a0_0, .slice A0_1 l0_1.length c0_1], .agg #[.bool a1_0, .slice A1_1 l1_1.length c1_1]] w fun e w' => e = .returned (.int .i64 r) ∧ Below w.heap.size w w' := by
 have hu26 := Tryd.underlying26
 have HR0_1 := a0_ hr0_1
 have HC0_1 := a0_ hc0_1
 clear hr0_1 hc0_1
 have HR1_1 := a0_ hr1_1
 have HC1_1 := a0_ hc1_1
 clear hr1_1 hc1_1
 have HB := a0_ (Below.refl w.heap.size w)
 have H : (if a0_0 = true then (spec_WideCmp.j0 k (!a1_0) a0_0 l0_1 a1_0 l1_1) else (spec_WideCmp.j0 k false a0_0 l0_1 a1_0 l1_1)) = some r := h
 clear h
 have HC3 := a0_ H
 clear H
 go_enter Tryd.func16, Tryd.ntmps16
 go_upto_region 1 with (first | ((with_reducible refine gate_dst (N := 2) rfl ?_); refine box_event ?hg (N := 2) ?hd (cs := #[.bool a0_0, .slice A0_1 l0_1.length c0_1]) (t := 26) ?hr ?_; (case hd => rfl); (case hg => rfl); (case hr => first | (go_simp; done) | (go_simp; rfl)); intro gb247 hg w4 hbox hb; have n0_ := a0_ (below_step (by repeat (first | (with_reducible first | exact HB.out | apply b1_ | apply b2_ | apply b3_) | exact HB.out)) hb); have n1_ := a0_ (hbox); have n2_ := a0_ ((by rw [hg]; exact (below_size (by repeat (first | (with_reducible first | exact HB.out | apply b1_ | apply b2_ | apply b3_) | exact HB.out))) : w.heap.size ≤ gb247)); have n3_ := a0_ ((by rw [hg]; exact (below_size (by repeat (first | (with_reducible first | exact HB.out | apply b1_ | apply b2_ | apply b3_) | exact HB.out))) : w.heap.size ≤ gb247)); clear HB; have HB := n0_; have BK247 := n1_; have GW247 := n2_; have GE247 := n3_; clear n0_ n1_ n2_ n3_; clear hb hbox hg) | ((with_reducible refine gate_dst (N := 3) rfl ?_); refine box_event ?hg (N := 3) ?hd (cs := #[.bool a1_0, .slice A1_1 l1_1.length c1_1]) (t := 26) ?hr ?_; (case hd => rfl); (case hg => rfl); (case hr => first | (go_simp; done) | (go_simp; rfl)); intro gb248 hg w5 hbox hb; have n0_ := a0_ (blk_below (g := gb247) (o := .cells #[.bool a0_0, .slice A0_1 l0_1.length c0_1] 26 (0, 0)) (by (with_reducible repeat (first | refine k1_ ?_ _ | refine k2_ ?_ | refine k3_ ?_ _)); exact BK247.out) hb); have n1_ := a0_ (below_step (by repeat (first | (with_reducible first | exact HB.out | apply b1_ | apply b2_ | apply b3_ | refine b4_ ?_ GE247.out) | exact HB.out)) hb); have n2_ := a0_ (hbox); have n3_ := a0_ ((by rw [hg]; exact (below_size (by repeat (first | (with_reducible first | exact HB.out | apply b1_ | apply b2_ | apply b3_ | refine b4_ ?_ GE247.out) | exact HB.out))) : w.heap.size ≤ gb248)); have n4_ := a0_ ((by rw [hg]; exact (below_size (by repeat (first | (with_reducible first | exact HB.out | apply b1_ | apply b2_ | apply b3_ | refine b4_ ?_ GE247.out) | exact HB.out))) : w.heap.size ≤ gb248)); have n5_ := a0_ ((by rw [hg]; exact Nat.ne_of_lt (blk_lt (g := gb247) (o := .cells #[.bool a0_0, .slice A0_1 l0_1.length c0_1] 26 (0, 0)) (by (with_reducible repeat (first | refine k1_ ?_ _ | refine k2_ ?_ | refine k3_ ?_ _)); exact BK247.out)) : gb247 ≠ gb248)); have n6_ := a0_ ((by rw [hg]; exact Nat.ne_of_gt (blk_lt (g := gb247) (o := .cells #[.bool a0_0, .slice A0_1 l0_1.length c0_1] 26 (0, 0)) (by (with_reducible repeat (first | refine k1_ ?_ _ | refine k2_ ?_ | refine k3_ ?_ _)); exact BK247.out)) : gb248 ≠ gb247)); clear BK247; clear HB; have BK247 := n0_; have HB := n1_; have BK248 := n2_; have GW248 := n3_; have GE248 := n4_; have NB247_248 := n5_; have NB248_247 := n6_; clear n0_ n1_ n2_ n3_ n4_ n5_ n6_; clear hb hbox hg))
 (try simp only [Act.put, s1_, s2_, s3_])
 go_cut [5] (fun v5 wc => ∃ (kq : Nat) (x5_2 : Bool), v5 = .bool x5_2 ∧ Aside0 (spec_WideCmp.j0 kq x5_2 a0_0 l0_1 a1_0 l1_1 = some r) ∧ Aside0 (kq ≤ k) ∧ Aside0 (wc.heap[gb247]? = some (.cells #[.bool a0_0, (.slice A0_1 l0_1.length c0_1)] 26 (0, 0))) ∧ Aside0 (wc.heap[gb248]? = some (.cells #[.bool a1_0, (.slice A1_1 l1_1.length c1_1)] 26 (0, 0))) ∧ Aside0 (Below w.heap.size w wc))
 case first =>
  have H := HC3.out
  clear HC3
  by_cases c6 : a0_0 = true
  ·
   subst c6
   have H1 : (spec_WideCmp.j0 k (!a1_0) true l0_1 a1_0 l1_1) = some r := by rw [if_pos rfl] at H; exact H
   clear H
   have H := H1
   clear H1
   have H' := a0_ H
   clear H
   have hnb7 := NB247_248.out
   have hnc7 := NB248_247.out
   have hcz8_0 : w5.cell? ⟨gb247, 0, none⟩ = some (.bool true) := (blk_cell BK247.out 0).trans rfl
   have hcz8_1 : w5.cell? ⟨gb247, 1, none⟩ = some (.slice A0_1 l0_1.length c0_1) := (blk_cell BK247.out 1).trans rfl
   have hfz8_0 := blk_frozen BK247.out 0
   have hfz8_1 := blk_frozen BK247.out 1
   have hcz9_0 : w5.cell? ⟨gb248, 0, none⟩ = some (.bool a1_0) := (blk_cell BK248.out 0).trans rfl
   have hcz9_1 : w5.cell? ⟨gb248, 1, none⟩ = some (.slice A1_1 l1_1.length c1_1) := (blk_cell BK248.out 1).trans rfl
   have hfz9_0 := blk_frozen BK248.out 0
   have hfz9_1 := blk_frozen BK248.out 1
   go_wp2
   go_meet
   case rel => exact ⟨_, (!a1_0), (by first | rfl | (simp; done) | (simp [*]; done)), H', ⟨by first | omega | exact Nat.le_refl _⟩, ⟨by (with_reducible repeat (first | refine k1_ ?_ _ | refine k2_ ?_ | refine k3_ ?_ _)); exact BK247.out⟩, ⟨by (with_reducible repeat (first | refine k1_ ?_ _ | refine k2_ ?_ | refine k3_ ?_ _)); exact BK248.out⟩, ⟨by repeat (first | (with_reducible first | exact HB.out | apply b1_ | apply b2_ | apply b3_ | refine b4_ ?_ GE247.out | refine b4_ ?_ GE248.out) | exact HB.out)⟩⟩
  ·
   replace c6 := Bool.eq_false_iff.mpr c6
   subst c6
   have H1 : (spec_WideCmp.j0 k false false l0_1 a1_0 l1_1) = some r := by rw [if_neg (show ¬ (false = true) by decide)] at H; exact H
   clear H
   have H := H1
   clear H1
   have H' := a0_ H
   clear H
   have hnb10 := NB247_248.out
   have hnc10 := NB248_247.out
   have hcz11_0 : w5.cell? ⟨gb247, 0, none⟩ = some (.bool false) := (blk_cell BK247.out 0).trans rfl
   have hcz11_1 : w5.cell? ⟨gb247, 1, none⟩ = some (.slice A0_1 l0_1.length c0_1) := (blk_cell BK247.out 1).trans rfl
   have hfz11_0 := blk_frozen BK247.out 0
   have hfz11_1 := blk_frozen BK247.out 1
   go_wp2
   go_meet
   case rel => exact ⟨_, (false), (by first | rfl | (simp; done) | (simp [*]; done)), H', ⟨by first | omega | exact Nat.le_refl _⟩, ⟨by (with_reducible repeat (first | refine k1_ ?_ _ | refine k2_ ?_ | refine k3_ ?_ _)); exact BK247.out⟩, ⟨by (with_reducible repeat (first | refine k1_ ?_ _ | refine k2_ ?_ | refine k3_ ?_ _)); exact BK248.out⟩, ⟨by repeat (first | (with_reducible first | exact HB.out | apply b1_ | apply b2_ | apply b3_ | refine b4_ ?_ GE247.out | refine b4_ ?_ GE248.out) | exact HB.out)⟩⟩
 case rest =>
  clear HC3
  try clear c1
  try clear p2
  try clear c6
  try clear c7
  try clear c10
  try clear hcz11_0
  try clear hcz11_1
  try clear hcz8_0
  try clear hcz8_1
  try clear hcz9_0
  try clear hcz9_1
  try clear hfz11_0
  try clear hfz11_1
  try clear hfz8_0
  try clear hfz8_1
  try clear hfz9_0
  try clear hfz9_1
  obtain ⟨kq, x5_2, rfl, HA, HJ2, BK247, BK248, HB⟩ := hcut
  cases kq with
  | zero => exact absurd HA.out (by simp [spec_WideCmp.j0])
  | succ kj2 =>
   have H := HA.out
   clear HA
   simp only [spec_WideCmp.j0] at H
   by_cases c12 : x5_2 = true
   ·
    subst c12
    have H1 : (some (-1)) = some r := by rw [if_pos rfl] at H; exact H
    clear H
    have H := H1
    clear H1
    obtain rfl := o1_ H
    go_wp2
    go_ret
    exact ⟨by first | rfl | (simp [e1_, e2_] <;> rfl) | (simp [*, e1_, e2_] <;> rfl), by repeat (first | (with_reducible first | exact HB.out | apply b1_ | apply b2_ | apply b3_ | refine b4_ ?_ GE247.out | refine b4_ ?_ GE248.out) | exact HB.out)⟩
   ·
    replace c12 := Bool.eq_false_iff.mpr c12
    subst c12
    have H1 : (if a0_0 = true then (spec_WideCmp.j1 kj2 false a0_0 l0_1 a1_0 l1_1) else (spec_WideCmp.j1 kj2 a1_0 a0_0 l0_1 a1_0 l1_1)) = some r := by rw [if_neg (show ¬ (false = true) by decide)] at H; exact H
    clear H
    have H := H1
    clear H1
    have HC13 := a0_ H
    clear H
    go_upto_region 3 with (fail)
    go_cut [13] (fun v13 wc => ∃ (kq : Nat) (x13_12 : Bool), v13 = .bool x13_12 ∧ Aside0 (spec_WideCmp.j1 kq x13_12 a0_0 l0_1 a1_0 l1_1 = some r) ∧ Aside0 (kq ≤ kj2) ∧ Aside0 (wc.heap[gb247]? = some (.cells #[.bool a0_0, (.slice A0_1 l0_1.length c0_1)] 26 (0, 0))) ∧ Aside0 (wc.heap[gb248]? = some (.cells #[.bool a1_0, (.slice A1_1 l1_1.length c1_1)] 26 (0, 0))) ∧ Aside0 (Below w.heap.size w wc))
    case first =>
     have H := HC13.out
     clear HC13
     by_cases c14 : a0_0 = true
     ·
      subst c14
      have H1 : (spec_WideCmp.j1 kj2 false true l0_1 a1_0 l1_1) = some r := by rw [if_pos rfl] at H; exact H
      clear H
      have H := H1
      clear H1
      have H' := a0_ H
      clear H
      have hnb15 := NB247_248.out
      have hnc15 := NB248_247.out
      have hcz16_0 : wc.cell? ⟨gb247, 0, none⟩ = some (.bool true) := (blk_cell BK247.out 0).trans rfl
      have hcz16_1 : wc.cell? ⟨gb247, 1, none⟩ = some (.slice A0_1 l0_1.length c0_1) := (blk_cell BK247.out 1).trans rfl
      have hfz16_0 := blk_frozen BK247.out 0
      have hfz16_1 := blk_frozen BK247.out 1
      go_wp2
      go_meet
      case rel => exact ⟨_, (false), (by first | rfl | (simp; done) | (simp [*]; done)), H', ⟨by have := HJ2.out; first | omega | exact Nat.le_refl _⟩, ⟨by (with_reducible repeat (first | refine k1_ ?_ _ | refine k2_ ?_ | refine k3_ ?_ _)); exact BK247.out⟩, ⟨by (with_reducible repeat (first | refine k1_ ?_ _ | refine k2_ ?_ | refine k3_ ?_ _)); exact BK248.out⟩, ⟨by repeat (first | (with_reducible first | exact HB.out | apply b1_ | apply b2_ | apply b3_ | refine b4_ ?_ GE247.out | refine b4_ ?_ GE248.out) | exact HB.out)⟩⟩
     ·
      replace c14 := Bool.eq_false_iff.mpr c14
      subst c14
      have H1 : (spec_WideCmp.j1 kj2 a1_0 false l0_1 a1_0 l1_1) = some r := by rw [if_neg (show ¬ (false = true) by decide)] at H; exact H
      clear H
      have H := H1
      clear H1
      have H' := a0_ H
      clear H
      have hnb17 := NB247_248.out
      have hnc17 := NB248_247.out
      have hcz18_0 : wc.cell? ⟨gb247, 0, none⟩ = some (.bool false) := (blk_cell BK247.out 0).trans rfl
      have hcz18_1 : wc.cell? ⟨gb247, 1, none⟩ = some (.slice A0_1 l0_1.length c0_1) := (blk_cell BK247.out 1).trans rfl
      have hfz18_0 := blk_frozen BK247.out 0
      have hfz18_1 := blk_frozen BK247.out 1
      have hcz19_0 : wc.cell? ⟨gb248, 0, none⟩ = some (.bool a1_0) := (blk_cell BK248.out 0).trans rfl
      have hcz19_1 : wc.cell? ⟨gb248, 1, none⟩ = some (.slice A1_1 l1_1.length c1_1) := (blk_cell BK248.out 1).trans rfl
      have hfz19_0 := blk_frozen BK248.out 0
      have hfz19_1 := blk_frozen BK248.out 1
      go_wp2
      go_meet
      case rel => exact ⟨_, (a1_0), (by first | rfl | (simp; done) | (simp [*]; done)), H', ⟨by have := HJ2.out; first | omega | exact Nat.le_refl _⟩, ⟨by (with_reducible repeat (first | refine k1_ ?_ _ | refine k2_ ?_ | refine k3_ ?_ _)); exact BK247.out⟩, ⟨by (with_reducible repeat (first | refine k1_ ?_ _ | refine k2_ ?_ | refine k3_ ?_ _)); exact BK248.out⟩, ⟨by repeat (first | (with_reducible first | exact HB.out | apply b1_ | apply b2_ | apply b3_ | refine b4_ ?_ GE247.out | refine b4_ ?_ GE248.out) | exact HB.out)⟩⟩
    case rest =>
     clear HC13
     try clear c1
     try clear p2
     try clear c6
     try clear c7
     try clear c10
     try clear c12
     try clear c14
     try clear c15
     try clear c16
     try clear c17
     try clear hcz11_0
     try clear hcz11_1
     try clear hcz16_0
     try clear hcz16_1
     try clear hcz18_0
     try clear hcz18_1
     try clear hcz19_0
     try clear hcz19_1
     try clear hcz8_0
     try clear hcz8_1
     try clear hcz9_0
     try clear hcz9_1
     try clear hfz11_0
     try clear hfz11_1
     try clear hfz16_0
     try clear hfz16_1
     try clear hfz18_0
     try clear hfz18_1
     try clear hfz19_0
     try clear hfz19_1
     try clear hfz8_0
     try clear hfz8_1
     try clear hfz9_0
     try clear hfz9_1
     try clear p2
     obtain ⟨kq, x13_12, rfl, HA, HJ12, BK247, BK248, HB⟩ := hcut
     cases kq with
     | zero => exact absurd HA.out (by simp [spec_WideCmp.j1])
     | succ kj12 =>
      have H := HA.out
      clear HA
      simp only [spec_WideCmp.j1] at H
      by_cases c20 : x13_12 = true
      ·
       subst c20
       have H1 : (some 1) = some r := by rw [if_pos rfl] at H; exact H
       clear H
       have H := H1
       clear H1
       obtain rfl := o1_ H
       go_wp2
       go_ret
       exact ⟨by first | rfl | (simp [e1_, e2_] <;> rfl) | (simp [*, e1_, e2_] <;> rfl), by repeat (first | (with_reducible first | exact HB.out | apply b1_ | apply b2_ | apply b3_ | refine b4_ ?_ GE247.out | refine b4_ ?_ GE248.out) | exact HB.out)⟩
      ·
       replace c20 := Bool.eq_false_iff.mpr c20
       subst c20
       have H1 : (if a0_0 = true then ((spec_magCmp.f kj12 l0_1 l1_1).bind fun t249 => (some (wrap64 (-t249)))) else ((spec_magCmp.f kj12 l0_1 l1_1).bind fun t250 => (some t250))) = some r := by rw [if_neg (show ¬ (false = true) by decide)] at H; exact H
       clear H
       have H := H1
       clear H1
       by_cases c21 : a0_0 = true
       ·
        subst c21
        have H1 : ((spec_magCmp.f kj12 l0_1 l1_1).bind fun t249 => (some (wrap64 (-t249)))) = some r := by rw [if_pos rfl] at H; exact H
        clear H
        have H := H1
        clear H1
        replace H := Option.bind_eq_some_iff.mp H
        obtain ⟨t249, A220, H⟩ := H
        replace H : (some (wrap64 (-t249))) = some r := H
        have A22 := a0_ A220
        clear A220
        obtain rfl := o1_ H
        have hnb23 := NB247_248.out
        have hnc23 := NB248_247.out
        have hcz24_0 : wc.cell? ⟨gb247, 0, none⟩ = some (.bool true) := (blk_cell BK247.out 0).trans rfl
        have hcz24_1 : wc.cell? ⟨gb247, 1, none⟩ = some (.slice A0_1 l0_1.length c0_1) := (blk_cell BK247.out 1).trans rfl
        have hfz24_0 := blk_frozen BK247.out 0
        have hfz24_1 := blk_frozen BK247.out 1
        have hcz25_0 : wc.cell? ⟨gb248, 0, none⟩ = some (.bool a1_0) := (blk_cell BK248.out 0).trans rfl
        have hcz25_1 : wc.cell? ⟨gb248, 1, none⟩ = some (.slice A1_1 l1_1.length c1_1) := (blk_cell BK248.out 1).trans rfl
        have hfz25_0 := blk_frozen BK248.out 0
        have hfz25_1 := blk_frozen BK248.out 1
        go_wp2_with (first | ((with_reducible refine gate_callee (f := 21) rfl ?_); refine goesL_ (some 28) rfl rfl Tryd.func21 (by kernel_rfl) rfl #[.slice A0_1 l0_1.length c0_1, .slice A1_1 l1_1.length c1_1] rfl (by (try simp only [List.map_toArray, List.map_cons, List.map_nil]); first | done | rfl | (simp only [List.length_drop, List.length_take]; rfl)) ?_; (with_reducible refine (spec_magCmp.calls kj12 _ _ l0_1 _ _ l1_1 t249 _ ?side1 ?side2 ?side3 ?side4 A22.out).mono ?_); (case side1 => repeat (first | exact (Kd.C_below HR0_1.out HB.out) | (with_reducible refine Kd.C_alloc ?_ _) | (with_reducible refine Kd.C_drewN ?_ _) | (with_reducible refine Kd.C_drew ?_))); (case side2 => exact HC0_1.out); (case side3 => repeat (first | exact (Kd.C_below HR1_1.out HB.out) | (with_reducible refine Kd.C_alloc ?_ _) | (with_reducible refine Kd.C_drewN ?_ _) | (with_reducible refine Kd.C_drew ?_))); (case side4 => exact HC1_1.out); rintro e w' ⟨rfl, ⟨nd, rfl⟩⟩; refine ⟨_, rfl, ?_⟩))
        go_ret
        exact ⟨by first | rfl | (simp [e1_, e2_] <;> rfl) | (simp [*, e1_, e2_] <;> rfl), by repeat (first | (with_reducible first | exact HB.out | apply b1_ | apply b2_ | apply b3_ | refine b4_ ?_ GE247.out | refine b4_ ?_ GE248.out) | exact HB.out)⟩
       ·
        replace c21 := Bool.eq_false_iff.mpr c21
        subst c21
        have H1 : ((spec_magCmp.f kj12 l0_1 l1_1).bind fun t250 => (some t250)) = some r := by rw [if_neg (show ¬ (false = true) by decide)] at H; exact H
        clear H
        have H := H1
        clear H1
        replace H := Option.bind_eq_some_iff.mp H
        obtain ⟨t250, A260, H⟩ := H
        replace H : (some t250) = some r := H
        have A26 := a0_ A260
        clear A260
        obtain rfl := o1_ H
        have hnb27 := NB247_248.out
        have hnc27 := NB248_247.out
        have hcz28_0 : wc.cell? ⟨gb247, 0, none⟩ = some (.bool false) := (blk_cell BK247.out 0).trans rfl
        have hcz28_1 : wc.cell? ⟨gb247, 1, none⟩ = some (.slice A0_1 l0_1.length c0_1) := (blk_cell BK247.out 1).trans rfl
        have hfz28_0 := blk_frozen BK247.out 0
        have hfz28_1 := blk_frozen BK247.out 1
        have hcz29_0 : wc.cell? ⟨gb248, 0, none⟩ = some (.bool a1_0) := (blk_cell BK248.out 0).trans rfl
        have hcz29_1 : wc.cell? ⟨gb248, 1, none⟩ = some (.slice A1_1 l1_1.length c1_1) := (blk_cell BK248.out 1).trans rfl
        have hfz29_0 := blk_frozen BK248.out 0
        have hfz29_1 := blk_frozen BK248.out 1
        go_wp2_with (first | ((with_reducible refine gate_callee (f := 21) rfl ?_); refine goesL_ (some 34) rfl rfl Tryd.func21 (by kernel_rfl) rfl #[.slice A0_1 l0_1.length c0_1, .slice A1_1 l1_1.length c1_1] rfl (by (try simp only [List.map_toArray, List.map_cons, List.map_nil]); first | done | rfl | (simp only [List.length_drop, List.length_take]; rfl)) ?_; (with_reducible refine (spec_magCmp.calls kj12 _ _ l0_1 _ _ l1_1 t250 _ ?side1 ?side2 ?side3 ?side4 A26.out).mono ?_); (case side1 => repeat (first | exact (Kd.C_below HR0_1.out HB.out) | (with_reducible refine Kd.C_alloc ?_ _) | (with_reducible refine Kd.C_drewN ?_ _) | (with_reducible refine Kd.C_drew ?_))); (case side2 => exact HC0_1.out); (case side3 => repeat (first | exact (Kd.C_below HR1_1.out HB.out) | (with_reducible refine Kd.C_alloc ?_ _) | (with_reducible refine Kd.C_drewN ?_ _) | (with_reducible refine Kd.C_drew ?_))); (case side4 => exact HC1_1.out); rintro e w' ⟨rfl, ⟨nd, rfl⟩⟩; refine ⟨_, rfl, ?_⟩))
        go_ret
        exact ⟨by first | rfl | (simp [e1_, e2_] <;> rfl) | (simp [*, e1_, e2_] <;> rfl), by repeat (first | (with_reducible first | exact HB.out | apply b1_ | apply b2_ | apply b3_ | refine b4_ ?_ GE247.out | refine b4_ ?_ GE248.out) | exact HB.out)⟩

/-! ### spec_Wide_Negated: function 17 -/
def spec_Wide_Negated.f (k : Nat) (a0_0 : Bool) (l0_1 : List Int) : Option (Bool × List Int) := (spec_wide.f k (!a0_0) l0_1).bind fun bt253 => (some (bt253.1, bt253.2))
set_option maxHeartbeats 8000000 in
set_option maxRecDepth 100000 in
theorem spec_Wide_Negated.calls (k : Nat) (a0_0 : Bool) (P0_1_ : Nat → Prop) (A0_1 : Option Addr) (c0_1 : Nat) (l0_1 : List Int) (r1 : Bool) (r2 : List Int) (w : World) (hs0_1 : Kd.V (Kd.int .u32) 40 w w.heap.size (fun k_ => P0_1_ k_) (.slice A0_1 l0_1.length c0_1) l0_1) (h : spec_Wide_Negated.f k a0_0 l0_1 = some (r1, r2)) :
  Calls Tryd.prog 17 #[.agg #[.bool a0_0, .slice A0_1 l0_1.length c0_1]] w fun e w' => ∃ v1_ : Value, e = .returned (.agg #[.bool r1, v1_]) ∧ Kd.V (Kd.int .u32) 40 w' w.heap.size (fun k_ => (P0_1_ k_ ∨ w.heap.size ≤ k_)) v1_ r2 ∧ Below w.heap.size w w' := by
 have hu26 := Tryd.underlying26
 have HO0_1 := a0_ (show Kd.V (Kd.int .u32) 40 w w.heap.size (fun k_ => (P0_1_ k_ ∨ w.heap.size ≤ k_)) (.slice A0_1 l0_1.length c0_1) l0_1 from v4_ hs0_1 (fun k_ hk => .inl hk))
 have HB := a0_ (Below.refl w.heap.size w)
 have H : ((spec_wide.f k (!a0_0) l0_1).bind fun bt253 => (some (bt253.1, bt253.2))) = some (r1, r2) := h
 clear h
 replace H := Option.bind_eq_some_iff.mp H
 obtain ⟨⟨t253, t254⟩, A20, H⟩ := H
 replace H : (some (t253, t254)) = some (r1, r2) := H
 have A2 := a0_ A20
 clear A20
 simp only [Option.some.injEq, Prod.mk.injEq] at H
 obtain ⟨rfl, rfl⟩ := H
 go_enter Tryd.func17, Tryd.ntmps17
 go_wp2_with (first | ((with_reducible refine gate_dst (N := 1) rfl ?_); refine box_event ?hg (N := 1) ?hd (cs := #[.bool a0_0, .slice A0_1 l0_1.length c0_1]) (t := 26) ?hr ?_; (case hd => rfl); (case hg => rfl); (case hr => first | (go_simp; done) | (go_simp; rfl)); intro gb251 hg w3 hbox hb; have n0_ := a0_ (Kd.V_below (Kd.V_elderB (by (with_reducible repeat (first | apply v1_ | apply v2_ | apply v3_)); exact HO0_1.out) gb251 (Nat.le_of_eq hg.symm)) hb); have n1_ := a0_ (below_step (by repeat (first | (with_reducible first | exact HB.out | apply b1_ | apply b2_ | apply b3_) | exact HB.out)) hb); have n2_ := a0_ (hbox); have n3_ := a0_ ((by rw [hg]; exact (below_size (by repeat (first | (with_reducible first | exact HB.out | apply b1_ | apply b2_ | apply b3_) | exact HB.out))) : w.heap.size ≤ gb251)); have n4_ := a0_ ((by rw [hg]; exact (below_size (by repeat (first | (with_reducible first | exact HB.out | apply b1_ | apply b2_ | apply b3_) | exact HB.out))) : w.heap.size ≤ gb251)); clear HO0_1; clear HB; have HO0_1 := n0_; have HB := n1_; have BK251 := n2_; have GW251 := n3_; have GE251 := n4_; clear n0_ n1_ n2_ n3_ n4_; clear hb hbox hg) | ((with_reducible refine gate_dst (N := 2) rfl ?_); refine box_event ?hg (N := 2) ?hd (cs := #[.bool false, .slice none 0 0]) (t := 26) ?hr ?_; (case hd => rfl); (case hg => rfl); (case hr => first | (go_simp; done) | (go_simp; rfl)); intro gb252 hg w4 hbox hb; have n0_ := a0_ (Kd.V_below (Kd.V_elderB (by (with_reducible repeat (first | apply v1_ | apply v2_ | apply v3_)); exact HO0_1.out) gb252 (Nat.le_of_eq hg.symm)) hb); have n1_ := a0_ (blk_below (g := gb251) (o := .cells #[.bool a0_0, .slice A0_1 l0_1.length c0_1] 26 (0, 0)) (by (with_reducible repeat (first | refine k1_ ?_ _ | refine k2_ ?_ | refine k3_ ?_ _)); exact BK251.out) hb); have n2_ := a0_ (below_step (by repeat (first | (with_reducible first | exact HB.out | apply b1_ | apply b2_ | apply b3_ | refine b4_ ?_ GE251.out) | exact HB.out)) hb); have n3_ := a0_ (hbox); have n4_ := a0_ ((by rw [hg]; exact (below_size (by repeat (first | (with_reducible first | exact HB.out | apply b1_ | apply b2_ | apply b3_ | refine b4_ ?_ GE251.out) | exact HB.out))) : w.heap.size ≤ gb252)); have n5_ := a0_ ((by rw [hg]; exact (below_size (by repeat (first | (with_reducible first | exact HB.out | apply b1_ | apply b2_ | apply b3_ | refine b4_ ?_ GE251.out) | exact HB.out))) : w.heap.size ≤ gb252)); have n6_ := a0_ ((by rw [hg]; exact Nat.ne_of_lt (blk_lt (g := gb251) (o := .cells #[.bool a0_0, .slice A0_1 l0_1.length c0_1] 26 (0, 0)) (by (with_reducible repeat (first | refine k1_ ?_ _ | refine k2_ ?_ | refine k3_ ?_ _)); exact BK251.out)) : gb251 ≠ gb252)); have n7_ := a0_ ((by rw [hg]; exact Nat.ne_of_gt (blk_lt (g := gb251) (o := .cells #[.bool a0_0, .slice A0_1 l0_1.length c0_1] 26 (0, 0)) (by (with_reducible repeat (first | refine k1_ ?_ _ | refine k2_ ?_ | refine k3_ ?_ _)); exact BK251.out)) : gb252 ≠ gb251)); clear HO0_1; clear BK251; clear HB; have HO0_1 := n0_; have BK251 := n1_; have HB := n2_; have BK252 := n3_; have GW252 := n4_; have GE252 := n5_; have NB251_252 := n6_; have NB252_251 := n7_; clear n0_ n1_ n2_ n3_ n4_ n5_ n6_ n7_; clear hb hbox hg; have hnb5 := NB251_252.out; have hnc5 := NB252_251.out; have hcz6_0 : w4.cell? ⟨gb251, 0, none⟩ = some (.bool a0_0) := (blk_cell BK251.out 0).trans rfl; have hcz6_1 : w4.cell? ⟨gb251, 1, none⟩ = some (.slice A0_1 l0_1.length c0_1) := (blk_cell BK251.out 1).trans rfl; have hfz6_0 := blk_frozen BK251.out 0; have hfz6_1 := blk_frozen BK251.out 1) | ((with_reducible refine gate_callee (f := 12) rfl ?_); refine goesL_ (some 8) rfl rfl Tryd.func12 (by kernel_rfl) rfl #[.bool (!a0_0), .slice A0_1 l0_1.length c0_1] rfl (by (try simp only [List.map_toArray, List.map_cons, List.map_nil]); first | done | rfl | (simp only [List.length_drop, List.length_take]; rfl)) ?_; (with_reducible refine (spec_wide.calls k (!a0_0) (fun k_ => (((P0_1_ k_ ∨ w.heap.size ≤ k_) ∧ k_ ≠ gb251) ∧ k_ ≠ gb252)) _ _ l0_1 t253 t254 _ ?side1 A2.out).mono ?_); (case side1 => exact HO0_1.out); rintro e w7 ⟨v255, rfl, ho0, hb⟩; refine ⟨_, rfl, ?_⟩; have n0_ := a0_ (Kd.V_below (by (with_reducible repeat (first | apply v1_ | apply v2_ | apply v3_)); exact HO0_1.out) hb); have n1_ := a0_ (Kd.V_lower (v4_ (ok' := fun k_ => (P0_1_ k_ ∨ w.heap.size ≤ k_) ∧ k_ ≠ gb251 ∧ k_ ≠ gb252) ho0 (fun k_ hk_ => ⟨Or.elim hk_ (fun hs_ => hs_.1.1) (fun hn_ => (.inr (Nat.le_trans (below_size (by repeat (first | (with_reducible first | exact HB.out | apply b1_ | apply b2_ | apply b3_ | refine b4_ ?_ GE251.out | refine b4_ ?_ GE252.out) | exact HB.out))) hn_))), Or.elim hk_ (fun hs_ => hs_.1.2) (fun hn_ => (Kd.freshB (g := gb251) (o := .cells #[.bool a0_0, .slice A0_1 l0_1.length c0_1] 26 (0, 0)) (by (with_reducible repeat (first | refine k1_ ?_ _ | refine k2_ ?_ | refine k3_ ?_ _)); exact BK251.out) k_ hn_)), Or.elim hk_ (fun hs_ => hs_.2) (fun hn_ => (Kd.freshB (g := gb252) (o := .cells #[.bool false, .slice none 0 0] 26 (0, 0)) (by (with_reducible repeat (first | refine k1_ ?_ _ | refine k2_ ?_ | refine k3_ ?_ _)); exact BK252.out) k_ hn_))⟩)) (below_size (by repeat (first | (with_reducible first | exact HB.out | apply b1_ | apply b2_ | apply b3_ | refine b4_ ?_ GE251.out | refine b4_ ?_ GE252.out) | exact HB.out)))); have n2_ := a0_ (blk_below (g := gb251) (o := .cells #[.bool a0_0, .slice A0_1 l0_1.length c0_1] 26 (0, 0)) (by (with_reducible repeat (first | refine k1_ ?_ _ | refine k2_ ?_ | refine k3_ ?_ _)); exact BK251.out) hb); have n3_ := a0_ (blk_below (g := gb252) (o := .cells #[.bool false, .slice none 0 0] 26 (0, 0)) (by (with_reducible repeat (first | refine k1_ ?_ _ | refine k2_ ?_ | refine k3_ ?_ _)); exact BK252.out) hb); have n4_ := a0_ (below_step (by repeat (first | (with_reducible first | exact HB.out | apply b1_ | apply b2_ | apply b3_ | refine b4_ ?_ GE251.out | refine b4_ ?_ GE252.out) | exact HB.out)) hb); clear HO0_1; clear BK251; clear BK252; clear HB; have HO0_1 := n0_; have HO256 := n1_; have BK251 := n2_; have BK252 := n3_; have HB := n4_; clear n0_ n1_ n2_ n3_ n4_; (try clear hb); (try clear hb2); (try clear hk); (try clear hi); (try clear ho0); have hcz8_0 : w7.cell? ⟨gb252, 0, none⟩ = some (.bool false) := (blk_cell BK252.out 0).trans rfl; have hcz8_1 : w7.cell? ⟨gb252, 1, none⟩ = some (.slice none 0 0) := (blk_cell BK252.out 1).trans rfl; have hfz8_0 := blk_frozen BK252.out 0; have hfz8_1 := blk_frozen BK252.out 1; obtain ⟨Ao9, co9, eo9⟩ := Kd.V_slice HO256.out; subst eo9))
 refine bodyPost_ret (results_cell_row rfl _ _ gb252 26 #[.bool t253, .slice Ao9 t254.length co9] (0, 0) _ rfl (by (with_reducible repeat (first | refine k1_ ?_ _ | refine k2_ ?_ | refine k3_ ?_ _)); refine blk_put (cs := #[.bool t253, .slice none 0 0]) ?_ 1 _ rfl; (with_reducible repeat (first | refine k1_ ?_ _ | refine k2_ ?_ | refine k3_ ?_ _)); refine blk_put (cs := #[.bool false, .slice none 0 0]) ?_ 0 _ rfl; (with_reducible repeat (first | refine k1_ ?_ _ | refine k2_ ?_ | refine k3_ ?_ _)); exact BK252.out) Tryd.underlying26 rfl (by kernel_rfl)) rfl ?_
 exact ⟨_, by first | rfl | (simp [e1_, e2_] <;> rfl) | (simp [*, e1_, e2_] <;> rfl), by (with_reducible repeat (first | apply v1_ | apply v2_ | apply v3_)); exact v4_ (v5_ (p := ⟨gb252, 1, none⟩) (v5_ (p := ⟨gb252, 0, none⟩) (v4_ HO256.out (fun k_ hk => (⟨hk, hk.2.2⟩ : _ ∧ k_ ≠ gb252))) (fun _ hk => hk.2) (.bool t253)) (fun _ hk => hk.2) (.slice Ao9 t254.length co9)) (fun _ hk => hk.1.1), by repeat (first | (with_reducible first | exact HB.out | apply b1_ | apply b2_ | apply b3_ | refine b4_ ?_ GE251.out | refine b4_ ?_ GE252.out) | exact HB.out)⟩

/-! ### spec_WideAdd: function 18 -/
def spec_WideAdd.f (k : Nat) (a0_0 : Bool) (l0_1 : List Int) (a1_0 : Bool) (l1_1 : List Int) : Option (Bool × List Int) := if (a0_0 == a1_0) = true then ((spec_magAdd.f k l0_1 l1_1).bind fun t260 => ((spec_wide.f k a0_0 t260).bind fun bt263 => (some (bt263.1, bt263.2)))) else ((spec_magCmp.f k l0_1 l1_1).bind fun t267 => (if t267 ≥ 0 then ((spec_magSub.f k l0_1 l1_1).bind fun t268 => ((spec_wide.f k a0_0 t268).bind fun bt271 => (some (bt271.1, bt271.2)))) else ((spec_magSub.f k l1_1 l0_1).bind fun t275 => ((spec_wide.f k a1_0 t275).bind fun bt278 => (some (bt278.1, bt278.2))))))
def spec_WideAdd.T2 : Bool × List (List Nat × List Nat) := (true, [([], []), ([0], [0]), ([], []), ([2], [2]), ([], []), ([4], [4]), ([3, 5], [3, 5]), ([1, 6, 6], [1, 6]), ([7, 7, 0, 1, 2, 3, 4, 5, 6, 7], [7])])
def spec_WideAdd.B2 : List Nat := [0, 1, 0, 4, 0, 16, 60, 127, 255]
theorem spec_WideAdd.tab2 : rtab .any (opsOf Tryd.f18 2) = spec_WideAdd.T2 := by kernel_rfl
theorem spec_WideAdd.bits2 : waitsOk spec_WideAdd.T2.2 spec_WideAdd.B2 = true := by kernel_rfl
def spec_WideAdd.T4 : Bool × List (List Nat × List Nat) := (true, [([], []), ([0], [0]), ([], []), ([2], [2]), ([], []), ([4], [4]), ([3, 5], [3, 5]), ([1, 6, 6], [1, 6]), ([7, 7, 0, 1, 2, 3, 4, 5, 6, 7], [7])])
def spec_WideAdd.B4 : List Nat := [0, 1, 0, 4, 0, 16, 60, 127, 255]
theorem spec_WideAdd.tab4 : rtab .any (opsOf Tryd.f18 4) = spec_WideAdd.T4 := by kernel_rfl
theorem spec_WideAdd.bits4 : waitsOk spec_WideAdd.T4.2 spec_WideAdd.B4 = true := by kernel_rfl
def spec_WideAdd.T5 : Bool × List (List Nat × List Nat) := (true, [([], []), ([0], [0]), ([], []), ([2], [2]), ([], []), ([4], [4]), ([3, 5], [3, 5]), ([1, 6, 6], [1, 6]), ([7, 7, 0, 1, 2, 3, 4, 5, 6, 7], [7])])
def spec_WideAdd.B5 : List Nat := [0, 1, 0, 4, 0, 16, 60, 127, 255]
theorem spec_WideAdd.tab5 : rtab .any (opsOf Tryd.f18 5) = spec_WideAdd.T5 := by kernel_rfl
theorem spec_WideAdd.bits5 : waitsOk spec_WideAdd.T5.2 spec_WideAdd.B5 = true := by kernel_rfl
set_option maxHeartbeats 8000000 in
set_option maxRecDepth 100000 in
theorem spec_WideAdd.calls (k : Nat) (a0_0 : Bool) (A0_1 : Option Addr) (c0_1 : Nat) (l0_1 : List Int) (a1_0 : Bool) (A1_1 : Option Addr) (c1_1 : Nat) (l1_1 : List Int) (r1 : Bool) (r2 : List Int) (w : World) (hr0_1 : Kd.C (Kd.int .u32) w A0_1 l0_1.length l0_1) (hc0_1 : l0_1.length ≤ c0_1) (hr1_1 : Kd.C (Kd.int .u32) w A1_1 l1_1.length l1_1) (hc1_1 : l1_1.length ≤ c1_1) (h : spec_WideAdd.f k a0_0 l0_1 a1_0 l1_1 = some (r1, r2)) :
  Calls Tryd.prog 18 #[.agg #[.bool a0_0, .slice A0_1 l0_1.length c0_1], .agg #[.bool a1_0, .slice A1_1 l1_1.length c1_1]] w fun e w' => ∃ v1_ : Value, e = .returned (.agg #[.bool r1, v1_]) ∧ Kd.V (Kd.int .u32) 40 w' w.heap.size (fun k_ => (w.heap.size ≤ k_)) v1_ r2 ∧ Below w.heap.size w w' := by
 have hu26 := Tryd.underlying26
 have HR0_1 := a0_ hr0_1
 have HC0_1 := a0_ hc0_1
 clear hr0_1 hc0_1
 have HR1_1 := a0_ hr1_1
 have HC1_1 := a0_ hc1_1
 clear hr1_1 hc1_1
 have HB := a0_ (Below.refl w.heap.size w)
 have H : (if (a0_0 == a1_0) = true then ((spec_magAdd.f k l0_1 l1_1).bind fun t260 => ((spec_wide.f k a0_0 t260).bind fun bt263 => (some (bt263.1, bt263.2)))) else ((spec_magCmp.f k l0_1 l1_1).bind fun t267 => (if t267 ≥ 0 then ((spec_magSub.f k l0_1 l1_1).bind fun t268 => ((spec_wide.f k a0_0 t268).bind fun bt271 => (some (bt271.1, bt271.2)))) else ((spec_magSub.f k l1_1 l0_1).bind fun t275 => ((spec_wide.f k a1_0 t275).bind fun bt278 => (some (bt278.1, bt278.2))))))) = some (r1, r2) := h
 clear h
 by_cases c3 : (a0_0 == a1_0) = true
 ·
  rw [if_pos c3] at H
  have c3b0 : (a0_0 == a1_0) = true := c3
  (try (have c3b1 : decide (a0_0 = a1_0) = true := by simpa using c3))
  (try (have c3b2 : (a0_0 == a1_0) = true := by simpa using c3))
  clear c3
  replace H := Option.bind_eq_some_iff.mp H
  obtain ⟨t260, A40, H⟩ := H
  replace H : ((spec_wide.f k a0_0 t260).bind fun bt263 => (some (bt263.1, bt263.2))) = some (r1, r2) := H
  have A4 := a0_ A40
  clear A40
  replace H := Option.bind_eq_some_iff.mp H
  obtain ⟨⟨t263, t264⟩, A50, H⟩ := H
  replace H : (some (t263, t264)) = some (r1, r2) := H
  have A5 := a0_ A50
  clear A50
  simp only [Option.some.injEq, Prod.mk.injEq] at H
  obtain ⟨rfl, rfl⟩ := H
  go_enter Tryd.func18, Tryd.ntmps18
  try go_wp2_with (first | ((with_reducible refine gate_dst (N := 2) rfl ?_); refine box_event ?hg (N := 2) ?hd (cs := #[.bool a0_0, .slice A0_1 l0_1.length c0_1]) (t := 26) ?hr ?_; (case hd => rfl); (case hg => rfl); (case hr => first | (go_simp; done) | (go_simp; rfl)); intro gb257 hg w6 hbox hb; have n0_ := a0_ (below_step (by repeat (first | (with_reducible first | exact HB.out | apply b1_ | apply b2_ | apply b3_) | exact HB.out)) hb); have n1_ := a0_ (hbox); have n2_ := a0_ ((by rw [hg]; exact (below_size (by repeat (first | (with_reducible first | exact HB.out | apply b1_ | apply b2_ | apply b3_) | exact HB.out))) : w.heap.size ≤ gb257)); have n3_ := a0_ ((by rw [hg]; exact (below_size (by repeat (first | (with_reducible first | exact HB.out | apply b1_ | apply b2_ | apply b3_) | exact HB.out))) : w.heap.size ≤ gb257)); clear HB; have HB := n0_; have BK257 := n1_; have GW257 := n2_; have GE257 := n3_; clear n0_ n1_ n2_ n3_; clear hb hbox hg) | ((with_reducible refine gate_dst (N := 3) rfl ?_); refine box_event ?hg (N := 3) ?hd (cs := #[.bool a1_0, .slice A1_1 l1_1.length c1_1]) (t := 26) ?hr ?_; (case hd => rfl); (case hg => rfl); (case hr => first | (go_simp; done) | (go_simp; rfl)); intro gb258 hg w7 hbox hb; have n0_ := a0_ (blk_below (g := gb257) (o := .cells #[.bool a0_0, .slice A0_1 l0_1.length c0_1] 26 (0, 0)) (by (with_reducible repeat (first | refine k1_ ?_ _ | refine k2_ ?_ | refine k3_ ?_ _)); exact BK257.out) hb); have n1_ := a0_ (below_step (by repeat (first | (with_reducible first | exact HB.out | apply b1_ | apply b2_ | apply b3_ | refine b4_ ?_ GE257.out) | exact HB.out)) hb); have n2_ := a0_ (hbox); have n3_ := a0_ ((by rw [hg]; exact (below_size (by repeat (first | (with_reducible first | exact HB.out | apply b1_ | apply b2_ | apply b3_ | refine b4_ ?_ GE257.out) | exact HB.out))) : w.heap.size ≤ gb258)); have n4_ := a0_ ((by rw [hg]; exact (below_size (by repeat (first | (with_reducible first | exact HB.out | apply b1_ | apply b2_ | apply b3_ | refine b4_ ?_ GE257.out) | exact HB.out))) : w.heap.size ≤ gb258)); have n5_ := a0_ ((by rw [hg]; exact Nat.ne_of_lt (blk_lt (g := gb257) (o := .cells #[.bool a0_0, .slice A0_1 l0_1.length c0_1] 26 (0, 0)) (by (with_reducible repeat (first | refine k1_ ?_ _ | refine k2_ ?_ | refine k3_ ?_ _)); exact BK257.out)) : gb257 ≠ gb258)); have n6_ := a0_ ((by rw [hg]; exact Nat.ne_of_gt (blk_lt (g := gb257) (o := .cells #[.bool a0_0, .slice A0_1 l0_1.length c0_1] 26 (0, 0)) (by (with_reducible repeat (first | refine k1_ ?_ _ | refine k2_ ?_ | refine k3_ ?_ _)); exact BK257.out)) : gb258 ≠ gb257)); clear BK257; clear HB; have BK257 := n0_; have HB := n1_; have BK258 := n2_; have GW258 := n3_; have GE258 := n4_; have NB257_258 := n5_; have NB258_257 := n6_; clear n0_ n1_ n2_ n3_ n4_ n5_ n6_; clear hb hbox hg) | ((with_reducible refine gate_dst (N := 4) rfl ?_); refine box_event ?hg (N := 4) ?hd (cs := #[.bool false, .slice none 0 0]) (t := 26) ?hr ?_; (case hd => rfl); (case hg => rfl); (case hr => first | (go_simp; done) | (go_simp; rfl)); intro gb259 hg w8 hbox hb; have n0_ := a0_ (blk_below (g := gb257) (o := .cells #[.bool a0_0, .slice A0_1 l0_1.length c0_1] 26 (0, 0)) (by (with_reducible repeat (first | refine k1_ ?_ _ | refine k2_ ?_ | refine k3_ ?_ _)); exact BK257.out) hb); have n1_ := a0_ (blk_below (g := gb258) (o := .cells #[.bool a1_0, .slice A1_1 l1_1.length c1_1] 26 (0, 0)) (by (with_reducible repeat (first | refine k1_ ?_ _ | refine k2_ ?_ | refine k3_ ?_ _)); exact BK258.out) hb); have n2_ := a0_ (below_step (by repeat (first | (with_reducible first | exact HB.out | apply b1_ | apply b2_ | apply b3_ | refine b4_ ?_ GE257.out | refine b4_ ?_ GE258.out) | exact HB.out)) hb); have n3_ := a0_ (hbox); have n4_ := a0_ ((by rw [hg]; exact (below_size (by repeat (first | (with_reducible first | exact HB.out | apply b1_ | apply b2_ | apply b3_ | refine b4_ ?_ GE257.out | refine b4_ ?_ GE258.out) | exact HB.out))) : w.heap.size ≤ gb259)); have n5_ := a0_ ((by rw [hg]; exact (below_size (by repeat (first | (with_reducible first | exact HB.out | apply b1_ | apply b2_ | apply b3_ | refine b4_ ?_ GE257.out | refine b4_ ?_ GE258.out) | exact HB.out))) : w.heap.size ≤ gb259)); have n6_ := a0_ ((by rw [hg]; exact Nat.ne_of_lt (blk_lt (g := gb257) (o := .cells #[.bool a0_0, .slice A0_1 l0_1.length c0_1] 26 (0, 0)) (by (with_reducible repeat (first | refine k1_ ?_ _ | refine k2_ ?_ | refine k3_ ?_ _)); exact BK257.out)) : gb257 ≠ gb259)); have n7_ := a0_ ((by rw [hg]; exact Nat.ne_of_gt (blk_lt (g := gb257) (o := .cells #[.bool a0_0, .slice A0_1 l0_1.length c0_1] 26 (0, 0)) (by (with_reducible repeat (first | refine k1_ ?_ _ | refine k2_ ?_ | refine k3_ ?_ _)); exact BK257.out)) : gb259 ≠ gb257)); have n8_ := a0_ ((by rw [hg]; exact Nat.ne_of_lt (blk_lt (g := gb258) (o := .cells #[.bool a1_0, .slice A1_1 l1_1.length c1_1] 26 (0, 0)) (by (with_reducible repeat (first | refine k1_ ?_ _ | refine k2_ ?_ | refine k3_ ?_ _)); exact BK258.out)) : gb258 ≠ gb259)); have n9_ := a0_ ((by rw [hg]; exact Nat.ne_of_gt (blk_lt (g := gb258) (o := .cells #[.bool a1_0, .slice A1_1 l1_1.length c1_1] 26 (0, 0)) (by (with_reducible repeat (first | refine k1_ ?_ _ | refine k2_ ?_ | refine k3_ ?_ _)); exact BK258.out)) : gb259 ≠ gb258)); clear BK257; clear BK258; clear HB; have BK257 := n0_; have BK258 := n1_; have HB := n2_; have BK259 := n3_; have GW259 := n4_; have GE259 := n5_; have NB257_259 := n6_; have NB259_257 := n7_; have NB258_259 := n8_; have NB259_258 := n9_; clear n0_ n1_ n2_ n3_ n4_ n5_ n6_ n7_ n8_ n9_; clear hb hbox hg; have hnb9 := NB257_258.out; have hnc9 := NB258_257.out; have hnb10 := NB257_259.out; have hnc10 := NB259_257.out; have hcz11_0 : w8.cell? ⟨gb257, 0, none⟩ = some (.bool a0_0) := (blk_cell BK257.out 0).trans rfl; have hcz11_1 : w8.cell? ⟨gb257, 1, none⟩ = some (.slice A0_1 l0_1.length c0_1) := (blk_cell BK257.out 1).trans rfl; have hfz11_0 := blk_frozen BK257.out 0; have hfz11_1 := blk_frozen BK257.out 1; have hnb12 := NB258_259.out; have hnc12 := NB259_258.out; have hcz13_0 : w8.cell? ⟨gb258, 0, none⟩ = some (.bool a1_0) := (blk_cell BK258.out 0).trans rfl; have hcz13_1 : w8.cell? ⟨gb258, 1, none⟩ = some (.slice A1_1 l1_1.length c1_1) := (blk_cell BK258.out 1).trans rfl; have hfz13_0 := blk_frozen BK258.out 0; have hfz13_1 := blk_frozen BK258.out 1))
  have n0_ := a0_ (k2_ BK257.out)
  have n1_ := a0_ (k2_ BK258.out)
  have n2_ := a0_ (k2_ BK259.out)
  have n3_ := a0_ (b3_ HB.out)
  clear BK257
  clear BK258
  clear BK259
  clear HB
  have BK257 := n0_
  have BK258 := n1_
  have BK259 := n2_
  have HB := n3_
  clear n0_ n1_ n2_ n3_
  refine start_ (n := 9) (S := fun w' => w'.cell? ⟨gb257, 0, none⟩ = some (.bool a0_0) ∧ w'.cell? ⟨gb257, 1, none⟩ = some (.slice A0_1 l0_1.length c0_1) ∧ w'.cell? ⟨gb258, 0, none⟩ = some (.bool a1_0) ∧ w'.cell? ⟨gb258, 1, none⟩ = some (.slice A1_1 l1_1.length c1_1)) (ds := []) #[false, false, false, false, false, false, false, false, false] (by kernel_rfl) rfl rfl ⟨(blk_cell BK257.out 0).trans rfl, (blk_cell BK257.out 1).trans rfl, (blk_cell BK258.out 0).trans rfl, (blk_cell BK258.out 1).trans rfl⟩ (fun hHeld => ?_); refine with_tabW spec_WideAdd.tab2 spec_WideAdd.bits2 (fun HT_ HW_ => ?_)
  generalize w8.drew = w14 at BK257 BK258 BK259 HB hHeld ⊢
  refine pure_ (i := 0) (N := some 10) (v := ?_) (a' := ?_) #[true, false, false, false, false, false, false, false, false] rfl rfl (any_of HT_.out (by kernel_rfl)) (fun _ _ _ h => h) (Or.inl ⟨by rfl, ?_⟩) ?_ ?_
  rotate_left
  ·
   intro w'
   go_simp
   with_reducible rfl
  rotate_left
  ·
   simp only [Act.put, s1_, s2_, s3_, i64_w, i32_w]
   rfl
  refine pure_ (i := 2) (N := some 12) (v := ?_) (a' := ?_) #[true, false, true, false, false, false, false, false, false] rfl rfl (any_of HT_.out (by kernel_rfl)) (fun _ _ _ h => h) (Or.inl ⟨by rfl, ?_⟩) ?_ ?_
  rotate_left
  ·
   intro w'
   go_simp
   with_reducible rfl
  rotate_left
  ·
   simp only [Act.put, s1_, s2_, s3_, i64_w, i32_w]
   rfl
  refine pure_ (i := 4) (N := some 14) (v := ?_) (a' := ?_) #[true, false, true, false, true, false, false, false, false] rfl rfl (any_of HT_.out (by kernel_rfl)) (fun _ _ _ h => h) (Or.inl ⟨by rfl, ?_⟩) ?_ ?_
  rotate_left
  ·
   intro w'
   go_simp
   with_reducible rfl
  rotate_left
  ·
   simp only [Act.put, s1_, s2_, s3_, i64_w, i32_w]
   rfl
  refine take_ (i := 1) (N := some 11) (v := ?_) (a' := ?_) #[true, true, true, false, true, false, false, false, false] rfl rfl (take_ofW HT_.out HW_.out (by kernel_rfl)) (fun _ _ _ h => h) (Or.inl ⟨by rfl, ?_⟩) hHeld ?_ ?_
  rotate_left
  ·
   rintro w' ⟨s0, s1, s2, s3⟩
   go_simp
   with_reducible rfl
  rotate_left
  ·
   simp only [Act.put, s1_, s2_, s3_, i64_w, i32_w]
   rfl
  refine take_ (i := 3) (N := some 13) (v := ?_) (a' := ?_) #[true, true, true, true, true, false, false, false, false] rfl rfl (take_ofW HT_.out HW_.out (by kernel_rfl)) (fun _ _ _ h => h) (Or.inl ⟨by rfl, ?_⟩) hHeld ?_ ?_
  rotate_left
  ·
   rintro w' ⟨s0, s1, s2, s3⟩
   go_simp
   with_reducible rfl
  rotate_left
  ·
   simp only [Act.put, s1_, s2_, s3_, i64_w, i32_w]
   rfl
  refine take_ (i := 5) (N := some 15) (v := ?_) (a' := ?_) #[true, true, true, true, true, true, false, false, false] rfl rfl (take_ofW HT_.out HW_.out (by kernel_rfl)) (fun _ _ _ h => h) (Or.inl ⟨by rfl, ?_⟩) hHeld ?_ ?_
  rotate_left
  ·
   rintro w' ⟨s0, s1, s2, s3⟩
   go_simp
   with_reducible rfl
  rotate_left
  ·
   simp only [Act.put, s1_, s2_, s3_, i64_w, i32_w]
   rfl
  refine one_ (i := 6) (N := some 16) #[true, true, true, true, true, true, true, false, false] rfl rfl (one_of HT_.out (by kernel_rfl)) (by decide) (fun K hK => ?_)
  refine goes_ Tryd.func20 (by kernel_rfl) rfl #[.slice A0_1 l0_1.length c0_1, .slice A1_1 l1_1.length c1_1] (by rfl) rfl rfl (by (try simp only [List.map_toArray, List.map_cons, List.map_nil]); first | done | rfl | (simp only [List.length_drop, List.length_take]; rfl)) ?_
  with_reducible refine (spec_magAdd.calls k _ _ l0_1 _ _ l1_1 t260 _ ?side1 ?side2 ?side3 ?side4 A4.out).mono ?_
  (case side1 => repeat (first | exact (Kd.C_below HR0_1.out HB.out) | (with_reducible refine Kd.C_alloc ?_ _) | (with_reducible refine Kd.C_drewN ?_ _) | (with_reducible refine Kd.C_drew ?_)))
  (case side2 => exact HC0_1.out)
  (case side3 => repeat (first | exact (Kd.C_below HR1_1.out HB.out) | (with_reducible refine Kd.C_alloc ?_ _) | (with_reducible refine Kd.C_drewN ?_ _) | (with_reducible refine Kd.C_drew ?_)))
  (case side4 => exact HC1_1.out)
  rintro e w15 ⟨v261, rfl, ho0, hb⟩
  refine ⟨_, rfl, ?_⟩
  have n0_ := a0_ (Kd.R_lower (Kd.R_newM (M := fun k_ => (w.heap.size ≤ k_)) ho0 (below_size (by repeat (first | (with_reducible first | exact HB.out | apply b1_ | apply b2_ | apply b3_ | refine b4_ ?_ GE257.out | refine b4_ ?_ GE258.out | refine b4_ ?_ GE259.out) | exact HB.out))) (fun k_ h_ => h_)) (below_size (by repeat (first | (with_reducible first | exact HB.out | apply b1_ | apply b2_ | apply b3_ | refine b4_ ?_ GE257.out | refine b4_ ?_ GE258.out | refine b4_ ?_ GE259.out) | exact HB.out))))
  have n1_ := a0_ (blk_below (g := gb257) (o := .cells #[.bool a0_0, .slice A0_1 l0_1.length c0_1] 26 (0, 0)) (by (with_reducible repeat (first | refine k1_ ?_ _ | refine k2_ ?_ | refine k3_ ?_ _)); exact BK257.out) hb)
  have n2_ := a0_ (blk_below (g := gb258) (o := .cells #[.bool a1_0, .slice A1_1 l1_1.length c1_1] 26 (0, 0)) (by (with_reducible repeat (first | refine k1_ ?_ _ | refine k2_ ?_ | refine k3_ ?_ _)); exact BK258.out) hb)
  have n3_ := a0_ (blk_below (g := gb259) (o := .cells #[.bool false, .slice none 0 0] 26 (0, 0)) (by (with_reducible repeat (first | refine k1_ ?_ _ | refine k2_ ?_ | refine k3_ ?_ _)); exact BK259.out) hb)
  have n4_ := a0_ (below_step (by repeat (first | (with_reducible first | exact HB.out | apply b1_ | apply b2_ | apply b3_ | refine b4_ ?_ GE257.out | refine b4_ ?_ GE258.out | refine b4_ ?_ GE259.out) | exact HB.out)) hb)
  clear BK257
  clear BK258
  clear BK259
  clear HB
  have HO262 := n0_
  have BK257 := n1_
  have BK258 := n2_
  have BK259 := n3_
  have HB := n4_
  clear n0_ n1_ n2_ n3_ n4_
  (try clear hb)
  (try clear hb2)
  (try clear hk)
  (try clear hi)
  (try clear ho0)
  obtain ⟨Ao16, co16, eo16⟩ := Kd.R_slice HO262.out
  (first | subst eo16 | (injection eo16 with f1_ f2_ f3_; have f4_ := f1_.symm; have f5_ := f3_.symm; clear f1_ f2_ f3_; subst f4_; subst f5_))
  refine hK.out _ _ ⟨(blk_cell BK257.out 0).trans rfl, (blk_cell BK257.out 1).trans rfl, (blk_cell BK258.out 0).trans rfl, (blk_cell BK258.out 1).trans rfl⟩ (fun hHeld => ?_)
  clear hK K
  refine norm_ (a' := ?_) ?_ ?_
  rotate_left
  ·
   show Act.put _ (some 16) _ = _
   simp only [Act.put, s1_, s2_, s3_, i64_w, i32_w]
   rfl
  refine one_ (i := 7) (N := some 17) #[true, true, true, true, true, true, true, true, false] rfl rfl (one_of HT_.out (by kernel_rfl)) (by decide) (fun K hK => ?_)
  refine goes_ Tryd.func12 (by kernel_rfl) rfl #[.bool a0_0, .slice Ao16 t260.length co16] (by rfl) rfl rfl (by (try simp only [List.map_toArray, List.map_cons, List.map_nil]); first | done | rfl | (simp only [List.length_drop, List.length_take]; rfl)) ?_
  with_reducible refine (spec_wide.calls k a0_0 (fun k_ => some k_ = (.slice Ao16 t260.length co16 : Value).ownBlock) _ _ t260 t263 t264 _ ?side1 A5.out).mono ?_
  (case side1 => exact Kd.R_V (Kd.R_tight rfl (Kd.R_types (Kd.R_types (Kd.R_types (HO262.out) BK257.out (by decide)) BK258.out (by decide)) BK259.out (by decide))))
  rintro e w17 ⟨v265, rfl, ho0, hb⟩
  refine ⟨_, rfl, ?_⟩
  have n0_ := a0_ (Kd.R_below (by (with_reducible repeat (first | apply r1_ | apply r2_ | apply r3_)); exact HO262.out) hb)
  have n1_ := a0_ (Kd.V_lower (v4_ (ok' := fun k_ => (w.heap.size ≤ k_) ∧ k_ ≠ gb257 ∧ k_ ≠ gb258 ∧ k_ ≠ gb259) ho0 (fun k_ hk_ => ⟨Or.elim hk_ (fun hs_ => ((Kd.R_types (Kd.R_types (Kd.R_types (HO262.out) BK257.out (by decide)) BK258.out (by decide)) BK259.out (by decide)).1 k_ hs_.symm).1.1.1.1) (fun hn_ => (Nat.le_trans (below_size (by repeat (first | (with_reducible first | exact HB.out | apply b1_ | apply b2_ | apply b3_ | refine b4_ ?_ GE257.out | refine b4_ ?_ GE258.out | refine b4_ ?_ GE259.out) | exact HB.out))) hn_)), Or.elim hk_ (fun hs_ => ((Kd.R_types (Kd.R_types (Kd.R_types (HO262.out) BK257.out (by decide)) BK258.out (by decide)) BK259.out (by decide)).1 k_ hs_.symm).1.1.2) (fun hn_ => (Kd.freshB (g := gb257) (o := .cells #[.bool a0_0, .slice A0_1 l0_1.length c0_1] 26 (0, 0)) (by (with_reducible repeat (first | refine k1_ ?_ _ | refine k2_ ?_ | refine k3_ ?_ _)); exact BK257.out) k_ hn_)), Or.elim hk_ (fun hs_ => ((Kd.R_types (Kd.R_types (Kd.R_types (HO262.out) BK257.out (by decide)) BK258.out (by decide)) BK259.out (by decide)).1 k_ hs_.symm).1.2) (fun hn_ => (Kd.freshB (g := gb258) (o := .cells #[.bool a1_0, .slice A1_1 l1_1.length c1_1] 26 (0, 0)) (by (with_reducible repeat (first | refine k1_ ?_ _ | refine k2_ ?_ | refine k3_ ?_ _)); exact BK258.out) k_ hn_)), Or.elim hk_ (fun hs_ => ((Kd.R_types (Kd.R_types (Kd.R_types (HO262.out) BK257.out (by decide)) BK258.out (by decide)) BK259.out (by decide)).1 k_ hs_.symm).2) (fun hn_ => (Kd.freshB (g := gb259) (o := .cells #[.bool false, .slice none 0 0] 26 (0, 0)) (by (with_reducible repeat (first | refine k1_ ?_ _ | refine k2_ ?_ | refine k3_ ?_ _)); exact BK259.out) k_ hn_))⟩)) (below_size (by repeat (first | (with_reducible first | exact HB.out | apply b1_ | apply b2_ | apply b3_ | refine b4_ ?_ GE257.out | refine b4_ ?_ GE258.out | refine b4_ ?_ GE259.out) | exact HB.out))))
  have n2_ := a0_ (blk_below (g := gb257) (o := .cells #[.bool a0_0, .slice A0_1 l0_1.length c0_1] 26 (0, 0)) (by (with_reducible repeat (first | refine k1_ ?_ _ | refine k2_ ?_ | refine k3_ ?_ _)); exact BK257.out) hb)
  have n3_ := a0_ (blk_below (g := gb258) (o := .cells #[.bool a1_0, .slice A1_1 l1_1.length c1_1] 26 (0, 0)) (by (with_reducible repeat (first | refine k1_ ?_ _ | refine k2_ ?_ | refine k3_ ?_ _)); exact BK258.out) hb)
  have n4_ := a0_ (blk_below (g := gb259) (o := .cells #[.bool false, .slice none 0 0] 26 (0, 0)) (by (with_reducible repeat (first | refine k1_ ?_ _ | refine k2_ ?_ | refine k3_ ?_ _)); exact BK259.out) hb)
  have n5_ := a0_ (below_step (by repeat (first | (with_reducible first | exact HB.out | apply b1_ | apply b2_ | apply b3_ | refine b4_ ?_ GE257.out | refine b4_ ?_ GE258.out | refine b4_ ?_ GE259.out) | exact HB.out)) hb)
  clear HO262
  clear BK257
  clear BK258
  clear BK259
  clear HB
  have HO262 := n0_
  have HO266 := n1_
  have BK257 := n2_
  have BK258 := n3_
  have BK259 := n4_
  have HB := n5_
  clear n0_ n1_ n2_ n3_ n4_ n5_
  (try clear hb)
  (try clear hb2)
  (try clear hk)
  (try clear hi)
  (try clear ho0)
  obtain ⟨Ao19, co19, eo19⟩ := Kd.V_slice HO266.out
  (first | subst eo19 | (injection eo19 with f1_ f2_ f3_; have f4_ := f1_.symm; have f5_ := f3_.symm; clear f1_ f2_ f3_; subst f4_; subst f5_))
  refine hK.out _ _ ⟨(blk_cell BK257.out 0).trans rfl, (blk_cell BK257.out 1).trans rfl, (blk_cell BK258.out 0).trans rfl, (blk_cell BK258.out 1).trans rfl⟩ (fun hHeld => ?_)
  clear hK K
  refine norm_ (a' := ?_) ?_ ?_
  rotate_left
  ·
   show Act.put _ (some 17) _ = _
   simp only [Act.put, s1_, s2_, s3_, i64_w, i32_w]
   rfl
  refine one_ (i := 8) (N := none) #[true, true, true, true, true, true, true, true, true] rfl rfl (one_of HT_.out (by kernel_rfl)) (by decide) (fun K hK => ?_)
  have hs18 : w17.cell? ⟨gb259, 0, none⟩ = some (.bool false) := (blk_cell BK259.out 0).trans rfl
  have hfs18 := blk_frozen BK259.out 0
  have hns18_0 := NB257_259.out
  have hns18_1 := NB258_259.out
  have hms18_0 := NB259_257.out
  have hms18_1 := NB259_258.out
  have hs20 : w17.cell? ⟨gb259, 1, none⟩ = some (.slice none 0 0) := (blk_cell BK259.out 1).trans rfl
  have hfs20 := blk_frozen BK259.out 1
  have hns20_0 := NB257_259.out
  have hns20_1 := NB258_259.out
  have hms20_0 := NB259_257.out
  have hms20_1 := NB259_258.out
  refine skip_ (w1 := ?_) (by rfl) rfl ?_ ?_
  rotate_left
  ·
   go_simp
   rfl
  refine hK.out _ _ ⟨((cell_far (p := ⟨gb259, _, none⟩) NB257_259.out _).trans (((cell_far (p := ⟨gb259, _, none⟩) NB257_259.out _).trans (hHeld.1)))), ((cell_far (p := ⟨gb259, _, none⟩) NB257_259.out _).trans (((cell_far (p := ⟨gb259, _, none⟩) NB257_259.out _).trans (hHeld.2.1)))), ((cell_far (p := ⟨gb259, _, none⟩) NB258_259.out _).trans (((cell_far (p := ⟨gb259, _, none⟩) NB258_259.out _).trans (hHeld.2.2.1)))), ((cell_far (p := ⟨gb259, _, none⟩) NB258_259.out _).trans (((cell_far (p := ⟨gb259, _, none⟩) NB258_259.out _).trans (hHeld.2.2.2))))⟩ (fun hHeld => ?_)
  clear hK K
  refine done_ (done_of HT_.out (by kernel_rfl)) ?_
  try go_wp2
  refine bodyPost_ret (results_cell_row rfl _ _ gb259 26 #[.bool t263, .slice Ao19 t264.length co19] (0, 0) _ rfl (by (with_reducible repeat (first | refine k1_ ?_ _ | refine k2_ ?_ | refine k3_ ?_ _)); refine blk_put (cs := #[.bool t263, .slice none 0 0]) ?_ 1 _ rfl; (with_reducible repeat (first | refine k1_ ?_ _ | refine k2_ ?_ | refine k3_ ?_ _)); refine blk_put (cs := #[.bool false, .slice none 0 0]) ?_ 0 _ rfl; (with_reducible repeat (first | refine k1_ ?_ _ | refine k2_ ?_ | refine k3_ ?_ _)); exact BK259.out) Tryd.underlying26 rfl (by kernel_rfl)) rfl ?_
  exact ⟨_, by first | rfl | (simp [e1_, e2_] <;> rfl) | (simp [*, e1_, e2_] <;> rfl), by (with_reducible repeat (first | apply v1_ | apply v2_ | apply v3_)); exact v4_ (v5_ (p := ⟨gb259, 1, none⟩) (v5_ (p := ⟨gb259, 0, none⟩) (v4_ HO266.out (fun k_ hk => (⟨hk, hk.2.2.2⟩ : _ ∧ k_ ≠ gb259))) (fun _ hk => hk.2) (.bool t263)) (fun _ hk => hk.2) (.slice Ao19 t264.length co19)) (fun _ hk => hk.1.1), by repeat (first | (with_reducible first | exact HB.out | apply b1_ | apply b2_ | apply b3_ | refine b4_ ?_ GE257.out | refine b4_ ?_ GE258.out | refine b4_ ?_ GE259.out) | exact HB.out)⟩
 ·
  rw [if_neg c3] at H
  have c3b0 : (a0_0 == a1_0) = false := by simpa using c3
  (try (have c3b1 : decide (a0_0 = a1_0) = false := by simpa using c3))
  (try (have c3b2 : (a0_0 == a1_0) = false := by simpa using c3))
  (try (have c3b3 : ¬ (a0_0 = a1_0) := by simpa using c3))
  clear c3
  replace H := Option.bind_eq_some_iff.mp H
  obtain ⟨t267, A210, H⟩ := H
  replace H : (if t267 ≥ 0 then ((spec_magSub.f k l0_1 l1_1).bind fun t268 => ((spec_wide.f k a0_0 t268).bind fun bt271 => (some (bt271.1, bt271.2)))) else ((spec_magSub.f k l1_1 l0_1).bind fun t275 => ((spec_wide.f k a1_0 t275).bind fun bt278 => (some (bt278.1, bt278.2))))) = some (r1, r2) := H
  have A21 := a0_ A210
  clear A210
  by_cases c22 : t267 ≥ 0
  ·
   rw [if_pos c22] at H
   have c22b0 : decide (0 ≤ t267) = true := d2_ c22
   clear c22
   replace H := Option.bind_eq_some_iff.mp H
   obtain ⟨t268, A230, H⟩ := H
   replace H : ((spec_wide.f k a0_0 t268).bind fun bt271 => (some (bt271.1, bt271.2))) = some (r1, r2) := H
   have A23 := a0_ A230
   clear A230
   replace H := Option.bind_eq_some_iff.mp H
   obtain ⟨⟨t271, t272⟩, A240, H⟩ := H
   replace H : (some (t271, t272)) = some (r1, r2) := H
   have A24 := a0_ A240
   clear A240
   simp only [Option.some.injEq, Prod.mk.injEq] at H
   obtain ⟨rfl, rfl⟩ := H
   go_enter Tryd.func18, Tryd.ntmps18
   try go_wp2_with (first | ((with_reducible refine gate_dst (N := 2) rfl ?_); refine box_event ?hg (N := 2) ?hd (cs := #[.bool a0_0, .slice A0_1 l0_1.length c0_1]) (t := 26) ?hr ?_; (case hd => rfl); (case hg => rfl); (case hr => first | (go_simp; done) | (go_simp; rfl)); intro gb257 hg w25 hbox hb; have n0_ := a0_ (below_step (by repeat (first | (with_reducible first | exact HB.out | apply b1_ | apply b2_ | apply b3_) | exact HB.out)) hb); have n1_ := a0_ (hbox); have n2_ := a0_ ((by rw [hg]; exact (below_size (by repeat (first | (with_reducible first | exact HB.out | apply b1_ | apply b2_ | apply b3_) | exact HB.out))) : w.heap.size ≤ gb257)); have n3_ := a0_ ((by rw [hg]; exact (below_size (by repeat (first | (with_reducible first | exact HB.out | apply b1_ | apply b2_ | apply b3_) | exact HB.out))) : w.heap.size ≤ gb257)); clear HB; have HB := n0_; have BK257 := n1_; have GW257 := n2_; have GE257 := n3_; clear n0_ n1_ n2_ n3_; clear hb hbox hg) | ((with_reducible refine gate_dst (N := 3) rfl ?_); refine box_event ?hg (N := 3) ?hd (cs := #[.bool a1_0, .slice A1_1 l1_1.length c1_1]) (t := 26) ?hr ?_; (case hd => rfl); (case hg => rfl); (case hr => first | (go_simp; done) | (go_simp; rfl)); intro gb258 hg w26 hbox hb; have n0_ := a0_ (blk_below (g := gb257) (o := .cells #[.bool a0_0, .slice A0_1 l0_1.length c0_1] 26 (0, 0)) (by (with_reducible repeat (first | refine k1_ ?_ _ | refine k2_ ?_ | refine k3_ ?_ _)); exact BK257.out) hb); have n1_ := a0_ (below_step (by repeat (first | (with_reducible first | exact HB.out | apply b1_ | apply b2_ | apply b3_ | refine b4_ ?_ GE257.out) | exact HB.out)) hb); have n2_ := a0_ (hbox); have n3_ := a0_ ((by rw [hg]; exact (below_size (by repeat (first | (with_reducible first | exact HB.out | apply b1_ | apply b2_ | apply b3_ | refine b4_ ?_ GE257.out) | exact HB.out))) : w.heap.size ≤ gb258)); have n4_ := a0_ ((by rw [hg]; exact (below_size (by repeat (first | (with_reducible first | exact HB.out | apply b1_ | apply b2_ | apply b3_ | refine b4_ ?_ GE257.out) | exact HB.out))) : w.heap.size ≤ gb258)); have n5_ := a0_ ((by rw [hg]; exact Nat.ne_of_lt (blk_lt (g := gb257) (o := .cells #[.bool a0_0, .slice A0_1 l0_1.length c0_1] 26 (0, 0)) (by (with_reducible repeat (first | refine k1_ ?_ _ | refine k2_ ?_ | refine k3_ ?_ _)); exact BK257.out)) : gb257 ≠ gb258)); have n6_ := a0_ ((by rw [hg]; exact Nat.ne_of_gt (blk_lt (g := gb257) (o := .cells #[.bool a0_0, .slice A0_1 l0_1.length c0_1] 26 (0, 0)) (by (with_reducible repeat (first | refine k1_ ?_ _ | refine k2_ ?_ | refine k3_ ?_ _)); exact BK257.out)) : gb258 ≠ gb257)); clear BK257; clear HB; have BK257 := n0_; have HB := n1_; have BK258 := n2_; have GW258 := n3_; have GE258 := n4_; have NB257_258 := n5_; have NB258_257 := n6_; clear n0_ n1_ n2_ n3_ n4_ n5_ n6_; clear hb hbox hg) | ((with_reducible refine gate_dst (N := 4) rfl ?_); refine box_event ?hg (N := 4) ?hd (cs := #[.bool false, .slice none 0 0]) (t := 26) ?hr ?_; (case hd => rfl); (case hg => rfl); (case hr => first | (go_simp; done) | (go_simp; rfl)); intro gb259 hg w27 hbox hb; have n0_ := a0_ (blk_below (g := gb257) (o := .cells #[.bool a0_0, .slice A0_1 l0_1.length c0_1] 26 (0, 0)) (by (with_reducible repeat (first | refine k1_ ?_ _ | refine k2_ ?_ | refine k3_ ?_ _)); exact BK257.out) hb); have n1_ := a0_ (blk_below (g := gb258) (o := .cells #[.bool a1_0, .slice A1_1 l1_1.length c1_1] 26 (0, 0)) (by (with_reducible repeat (first | refine k1_ ?_ _ | refine k2_ ?_ | refine k3_ ?_ _)); exact BK258.out) hb); have n2_ := a0_ (below_step (by repeat (first | (with_reducible first | exact HB.out | apply b1_ | apply b2_ | apply b3_ | refine b4_ ?_ GE257.out | refine b4_ ?_ GE258.out) | exact HB.out)) hb); have n3_ := a0_ (hbox); have n4_ := a0_ ((by rw [hg]; exact (below_size (by repeat (first | (with_reducible first | exact HB.out | apply b1_ | apply b2_ | apply b3_ | refine b4_ ?_ GE257.out | refine b4_ ?_ GE258.out) | exact HB.out))) : w.heap.size ≤ gb259)); have n5_ := a0_ ((by rw [hg]; exact (below_size (by repeat (first | (with_reducible first | exact HB.out | apply b1_ | apply b2_ | apply b3_ | refine b4_ ?_ GE257.out | refine b4_ ?_ GE258.out) | exact HB.out))) : w.heap.size ≤ gb259)); have n6_ := a0_ ((by rw [hg]; exact Nat.ne_of_lt (blk_lt (g := gb257) (o := .cells #[.bool a0_0, .slice A0_1 l0_1.length c0_1] 26 (0, 0)) (by (with_reducible repeat (first | refine k1_ ?_ _ | refine k2_ ?_ | refine k3_ ?_ _)); exact BK257.out)) : gb257 ≠ gb259)); have n7_ := a0_ ((by rw [hg]; exact Nat.ne_of_gt (blk_lt (g := gb257) (o := .cells #[.bool a0_0, .slice A0_1 l0_1.length c0_1] 26 (0, 0)) (by (with_reducible repeat (first | refine k1_ ?_ _ | refine k2_ ?_ | refine k3_ ?_ _)); exact BK257.out)) : gb259 ≠ gb257)); have n8_ := a0_ ((by rw [hg]; exact Nat.ne_of_lt (blk_lt (g := gb258) (o := .cells #[.bool a1_0, .slice A1_1 l1_1.length c1_1] 26 (0, 0)) (by (with_reducible repeat (first | refine k1_ ?_ _ | refine k2_ ?_ | refine k3_ ?_ _)); exact BK258.out)) : gb258 ≠ gb259)); have n9_ := a0_ ((by rw [hg]; exact Nat.ne_of_gt (blk_lt (g := gb258) (o := .cells #[.bool a1_0, .slice A1_1 l1_1.length c1_1] 26 (0, 0)) (by (with_reducible repeat (first | refine k1_ ?_ _ | refine k2_ ?_ | refine k3_ ?_ _)); exact BK258.out)) : gb259 ≠ gb258)); clear BK257; clear BK258; clear HB; have BK257 := n0_; have BK258 := n1_; have HB := n2_; have BK259 := n3_; have GW259 := n4_; have GE259 := n5_; have NB257_259 := n6_; have NB259_257 := n7_; have NB258_259 := n8_; have NB259_258 := n9_; clear n0_ n1_ n2_ n3_ n4_ n5_ n6_ n7_ n8_ n9_; clear hb hbox hg; have hnb28 := NB257_258.out; have hnc28 := NB258_257.out; have hnb29 := NB257_259.out; have hnc29 := NB259_257.out; have hcz30_0 : w27.cell? ⟨gb257, 0, none⟩ = some (.bool a0_0) := (blk_cell BK257.out 0).trans rfl; have hcz30_1 : w27.cell? ⟨gb257, 1, none⟩ = some (.slice A0_1 l0_1.length c0_1) := (blk_cell BK257.out 1).trans rfl; have hfz30_0 := blk_frozen BK257.out 0; have hfz30_1 := blk_frozen BK257.out 1; have hnb31 := NB258_259.out; have hnc31 := NB259_258.out; have hcz32_0 : w27.cell? ⟨gb258, 0, none⟩ = some (.bool a1_0) := (blk_cell BK258.out 0).trans rfl; have hcz32_1 : w27.cell? ⟨gb258, 1, none⟩ = some (.slice A1_1 l1_1.length c1_1) := (blk_cell BK258.out 1).trans rfl; have hfz32_0 := blk_frozen BK258.out 0; have hfz32_1 := blk_frozen BK258.out 1) | ((with_reducible refine gate_callee (f := 21) rfl ?_); refine goesL_ (some 22) rfl rfl Tryd.func21 (by kernel_rfl) rfl #[.slice A0_1 l0_1.length c0_1, .slice A1_1 l1_1.length c1_1] rfl (by (try simp only [List.map_toArray, List.map_cons, List.map_nil]); first | done | rfl | (simp only [List.length_drop, List.length_take]; rfl)) ?_; (with_reducible refine (spec_magCmp.calls k _ _ l0_1 _ _ l1_1 t267 _ ?side1 ?side2 ?side3 ?side4 A21.out).mono ?_); (case side1 => repeat (first | exact (Kd.C_below HR0_1.out HB.out) | (with_reducible refine Kd.C_alloc ?_ _) | (with_reducible refine Kd.C_drewN ?_ _) | (with_reducible refine Kd.C_drew ?_))); (case side2 => exact HC0_1.out); (case side3 => repeat (first | exact (Kd.C_below HR1_1.out HB.out) | (with_reducible refine Kd.C_alloc ?_ _) | (with_reducible refine Kd.C_drewN ?_ _) | (with_reducible refine Kd.C_drew ?_))); (case side4 => exact HC1_1.out); rintro e w' ⟨rfl, ⟨nd, rfl⟩⟩; refine ⟨_, rfl, ?_⟩; (try (rw [drewN_self w27]; generalize hq_ : World.drewN w27 _ = w27; have n0_ : Aside0 (w27.heap[gb257]? = some (.cells #[.bool a0_0, .slice A0_1 l0_1.length c0_1] 26 (0, 0))) := ⟨by rw [← hq_]; exact (by (with_reducible repeat (first | refine k1_ ?_ _ | refine k2_ ?_ | refine k3_ ?_ _)); exact BK257.out)⟩; have n1_ : Aside0 (w27.heap[gb258]? = some (.cells #[.bool a1_0, .slice A1_1 l1_1.length c1_1] 26 (0, 0))) := ⟨by rw [← hq_]; exact (by (with_reducible repeat (first | refine k1_ ?_ _ | refine k2_ ?_ | refine k3_ ?_ _)); exact BK258.out)⟩; have n2_ : Aside0 (w27.heap[gb259]? = some (.cells #[.bool false, .slice none 0 0] 26 (0, 0))) := ⟨by rw [← hq_]; exact (by (with_reducible repeat (first | refine k1_ ?_ _ | refine k2_ ?_ | refine k3_ ?_ _)); exact BK259.out)⟩; have n3_ : Aside0 (Below w.heap.size w w27) := ⟨by rw [← hq_]; exact (by repeat (first | (with_reducible first | exact HB.out | apply b1_ | apply b2_ | apply b3_ | refine b4_ ?_ GE257.out | refine b4_ ?_ GE258.out | refine b4_ ?_ GE259.out) | exact HB.out))⟩; clear BK257 BK258 BK259 HB hq_; have BK257 := n0_; have BK258 := n1_; have BK259 := n2_; have HB := n3_; clear n0_ n1_ n2_ n3_))))
   have n0_ := a0_ (k2_ BK257.out)
   have n1_ := a0_ (k2_ BK258.out)
   have n2_ := a0_ (k2_ BK259.out)
   have n3_ := a0_ (b3_ HB.out)
   clear BK257
   clear BK258
   clear BK259
   clear HB
   have BK257 := n0_
   have BK258 := n1_
   have BK259 := n2_
   have HB := n3_
   clear n0_ n1_ n2_ n3_
   refine start_ (n := 9) (S := fun w' => w'.cell? ⟨gb257, 0, none⟩ = some (.bool a0_0) ∧ w'.cell? ⟨gb257, 1, none⟩ = some (.slice A0_1 l0_1.length c0_1) ∧ w'.cell? ⟨gb258, 0, none⟩ = some (.bool a1_0) ∧ w'.cell? ⟨gb258, 1, none⟩ = some (.slice A1_1 l1_1.length c1_1)) (ds := []) #[false, false, false, false, false, false, false, false, false] (by kernel_rfl) rfl rfl ⟨(blk_cell BK257.out 0).trans rfl, (blk_cell BK257.out 1).trans rfl, (blk_cell BK258.out 0).trans rfl, (blk_cell BK258.out 1).trans rfl⟩ (fun hHeld => ?_); refine with_tabW spec_WideAdd.tab4 spec_WideAdd.bits4 (fun HT_ HW_ => ?_)
   generalize w27.drew = w33 at BK257 BK258 BK259 HB hHeld ⊢
   refine pure_ (i := 0) (N := some 24) (v := ?_) (a' := ?_) #[true, false, false, false, false, false, false, false, false] rfl rfl (any_of HT_.out (by kernel_rfl)) (fun _ _ _ h => h) (Or.inl ⟨by rfl, ?_⟩) ?_ ?_
   rotate_left
   ·
    intro w'
    go_simp
    with_reducible rfl
   rotate_left
   ·
    simp only [Act.put, s1_, s2_, s3_, i64_w, i32_w]
    rfl
   refine pure_ (i := 2) (N := some 26) (v := ?_) (a' := ?_) #[true, false, true, false, false, false, false, false, false] rfl rfl (any_of HT_.out (by kernel_rfl)) (fun _ _ _ h => h) (Or.inl ⟨by rfl, ?_⟩) ?_ ?_
   rotate_left
   ·
    intro w'
    go_simp
    with_reducible rfl
   rotate_left
   ·
    simp only [Act.put, s1_, s2_, s3_, i64_w, i32_w]
    rfl
   refine pure_ (i := 4) (N := some 28) (v := ?_) (a' := ?_) #[true, false, true, false, true, false, false, false, false] rfl rfl (any_of HT_.out (by kernel_rfl)) (fun _ _ _ h => h) (Or.inl ⟨by rfl, ?_⟩) ?_ ?_
   rotate_left
   ·
    intro w'
    go_simp
    with_reducible rfl
   rotate_left
   ·
    simp only [Act.put, s1_, s2_, s3_, i64_w, i32_w]
    rfl
   refine take_ (i := 1) (N := some 25) (v := ?_) (a' := ?_) #[true, true, true, false, true, false, false, false, false] rfl rfl (take_ofW HT_.out HW_.out (by kernel_rfl)) (fun _ _ _ h => h) (Or.inl ⟨by rfl, ?_⟩) hHeld ?_ ?_
   rotate_left
   ·
    rintro w' ⟨s0, s1, s2, s3⟩
    go_simp
    with_reducible rfl
   rotate_left
   ·
    simp only [Act.put, s1_, s2_, s3_, i64_w, i32_w]
    rfl
   refine take_ (i := 3) (N := some 27) (v := ?_) (a' := ?_) #[true, true, true, true, true, false, false, false, false] rfl rfl (take_ofW HT_.out HW_.out (by kernel_rfl)) (fun _ _ _ h => h) (Or.inl ⟨by rfl, ?_⟩) hHeld ?_ ?_
   rotate_left
   ·
    rintro w' ⟨s0, s1, s2, s3⟩
    go_simp
    with_reducible rfl
   rotate_left
   ·
    simp only [Act.put, s1_, s2_, s3_, i64_w, i32_w]
    rfl
   refine take_ (i := 5) (N := some 29) (v := ?_) (a' := ?_) #[true, true, true, true, true, true, false, false, false] rfl rfl (take_ofW HT_.out HW_.out (by kernel_rfl)) (fun _ _ _ h => h) (Or.inl ⟨by rfl, ?_⟩) hHeld ?_ ?_
   rotate_left
   ·
    rintro w' ⟨s0, s1, s2, s3⟩
    go_simp
    with_reducible rfl
   rotate_left
   ·
    simp only [Act.put, s1_, s2_, s3_, i64_w, i32_w]
    rfl
   refine one_ (i := 6) (N := some 30) #[true, true, true, true, true, true, true, false, false] rfl rfl (one_of HT_.out (by kernel_rfl)) (by decide) (fun K hK => ?_)
   refine goes_ Tryd.func22 (by kernel_rfl) rfl #[.slice A0_1 l0_1.length c0_1, .slice A1_1 l1_1.length c1_1] (by rfl) rfl rfl (by (try simp only [List.map_toArray, List.map_cons, List.map_nil]); first | done | rfl | (simp only [List.length_drop, List.length_take]; rfl)) ?_
   with_reducible refine (spec_magSub.calls k _ _ l0_1 _ _ l1_1 t268 _ ?side1 ?side2 ?side3 ?side4 A23.out).mono ?_
   (case side1 => repeat (first | exact (Kd.C_below HR0_1.out HB.out) | (with_reducible refine Kd.C_alloc ?_ _) | (with_reducible refine Kd.C_drewN ?_ _) | (with_reducible refine Kd.C_drew ?_)))
   (case side2 => exact HC0_1.out)
   (case side3 => repeat (first | exact (Kd.C_below HR1_1.out HB.out) | (with_reducible refine Kd.C_alloc ?_ _) | (with_reducible refine Kd.C_drewN ?_ _) | (with_reducible refine Kd.C_drew ?_)))
   (case side4 => exact HC1_1.out)
   rintro e w34 ⟨v269, rfl, ho0, hb⟩
   refine ⟨_, rfl, ?_⟩
   have n0_ := a0_ (Kd.V_lower (v4_ (ok' := fun k_ => (w.heap.size ≤ k_) ∧ k_ ≠ gb257 ∧ k_ ≠ gb258 ∧ k_ ≠ gb259) ho0 (fun k_ hk_ => ⟨(Nat.le_trans (below_size (by repeat (first | (with_reducible first | exact HB.out | apply b1_ | apply b2_ | apply b3_ | refine b4_ ?_ GE257.out | refine b4_ ?_ GE258.out | refine b4_ ?_ GE259.out) | exact HB.out))) hk_), (Kd.freshB (g := gb257) (o := .cells #[.bool a0_0, .slice A0_1 l0_1.length c0_1] 26 (0, 0)) (by (with_reducible repeat (first | refine k1_ ?_ _ | refine k2_ ?_ | refine k3_ ?_ _)); exact BK257.out) k_ hk_), (Kd.freshB (g := gb258) (o := .cells #[.bool a1_0, .slice A1_1 l1_1.length c1_1] 26 (0, 0)) (by (with_reducible repeat (first | refine k1_ ?_ _ | refine k2_ ?_ | refine k3_ ?_ _)); exact BK258.out) k_ hk_), (Kd.freshB (g := gb259) (o := .cells #[.bool false, .slice none 0 0] 26 (0, 0)) (by (with_reducible repeat (first | refine k1_ ?_ _ | refine k2_ ?_ | refine k3_ ?_ _)); exact BK259.out) k_ hk_)⟩)) (below_size (by repeat (first | (with_reducible first | exact HB.out | apply b1_ | apply b2_ | apply b3_ | refine b4_ ?_ GE257.out | refine b4_ ?_ GE258.out | refine b4_ ?_ GE259.out) | exact HB.out))))
   have n1_ := a0_ (blk_below (g := gb257) (o := .cells #[.bool a0_0, .slice A0_1 l0_1.length c0_1] 26 (0, 0)) (by (with_reducible repeat (first | refine k1_ ?_ _ | refine k2_ ?_ | refine k3_ ?_ _)); exact BK257.out) hb)
   have n2_ := a0_ (blk_below (g := gb258) (o := .cells #[.bool a1_0, .slice A1_1 l1_1.length c1_1] 26 (0, 0)) (by (with_reducible repeat (first | refine k1_ ?_ _ | refine k2_ ?_ | refine k3_ ?_ _)); exact BK258.out) hb)
   have n3_ := a0_ (blk_below (g := gb259) (o := .cells #[.bool false, .slice none 0 0] 26 (0, 0)) (by (with_reducible repeat (first | refine k1_ ?_ _ | refine k2_ ?_ | refine k3_ ?_ _)); exact BK259.out) hb)
   have n4_ := a0_ (below_step (by repeat (first | (with_reducible first | exact HB.out | apply b1_ | apply b2_ | apply b3_ | refine b4_ ?_ GE257.out | refine b4_ ?_ GE258.out | refine b4_ ?_ GE259.out) | exact HB.out)) hb)
   clear BK257
   clear BK258
   clear BK259
   clear HB
   have HO270 := n0_
   have BK257 := n1_
   have BK258 := n2_
   have BK259 := n3_
   have HB := n4_
   clear n0_ n1_ n2_ n3_ n4_
   (try clear hb)
   (try clear hb2)
   (try clear hk)
   (try clear hi)
   (try clear ho0)
   obtain ⟨Ao35, co35, eo35⟩ := Kd.V_slice HO270.out
   (first | subst eo35 | (injection eo35 with f1_ f2_ f3_; have f4_ := f1_.symm; have f5_ := f3_.symm; clear f1_ f2_ f3_; subst f4_; subst f5_))
   refine hK.out _ _ ⟨(blk_cell BK257.out 0).trans rfl, (blk_cell BK257.out 1).trans rfl, (blk_cell BK258.out 0).trans rfl, (blk_cell BK258.out 1).trans rfl⟩ (fun hHeld => ?_)
   clear hK K
   refine norm_ (a' := ?_) ?_ ?_
   rotate_left
   ·
    show Act.put _ (some 30) _ = _
    simp only [Act.put, s1_, s2_, s3_, i64_w, i32_w]
    rfl
   refine one_ (i := 7) (N := some 31) #[true, true, true, true, true, true, true, true, false] rfl rfl (one_of HT_.out (by kernel_rfl)) (by decide) (fun K hK => ?_)
   refine goes_ Tryd.func12 (by kernel_rfl) rfl #[.bool a0_0, .slice Ao35 t268.length co35] (by rfl) rfl rfl (by (try simp only [List.map_toArray, List.map_cons, List.map_nil]); first | done | rfl | (simp only [List.length_drop, List.length_take]; rfl)) ?_
   with_reducible refine (spec_wide.calls k a0_0 (fun k_ => ((w.heap.size ≤ k_) ∧ (k_ ≠ gb257 ∧ (k_ ≠ gb258 ∧ k_ ≠ gb259)))) _ _ t268 t271 t272 _ ?side1 A24.out).mono ?_
   (case side1 => exact HO270.out)
   rintro e w36 ⟨v273, rfl, ho0, hb⟩
   refine ⟨_, rfl, ?_⟩
   have n0_ := a0_ (Kd.V_below (by (with_reducible repeat (first | apply v1_ | apply v2_ | apply v3_)); exact HO270.out) hb)
   have n1_ := a0_ (Kd.V_lower (v4_ (ok' := fun k_ => (w.heap.size ≤ k_) ∧ k_ ≠ gb257 ∧ k_ ≠ gb258 ∧ k_ ≠ gb259) ho0 (fun k_ hk_ => ⟨Or.elim hk_ (fun hs_ => hs_.1) (fun hn_ => (Nat.le_trans (below_size (by repeat (first | (with_reducible first | exact HB.out | apply b1_ | apply b2_ | apply b3_ | refine b4_ ?_ GE257.out | refine b4_ ?_ GE258.out | refine b4_ ?_ GE259.out) | exact HB.out))) hn_)), Or.elim hk_ (fun hs_ => hs_.2.1) (fun hn_ => (Kd.freshB (g := gb257) (o := .cells #[.bool a0_0, .slice A0_1 l0_1.length c0_1] 26 (0, 0)) (by (with_reducible repeat (first | refine k1_ ?_ _ | refine k2_ ?_ | refine k3_ ?_ _)); exact BK257.out) k_ hn_)), Or.elim hk_ (fun hs_ => hs_.2.2.1) (fun hn_ => (Kd.freshB (g := gb258) (o := .cells #[.bool a1_0, .slice A1_1 l1_1.length c1_1] 26 (0, 0)) (by (with_reducible repeat (first | refine k1_ ?_ _ | refine k2_ ?_ | refine k3_ ?_ _)); exact BK258.out) k_ hn_)), Or.elim hk_ (fun hs_ => hs_.2.2.2) (fun hn_ => (Kd.freshB (g := gb259) (o := .cells #[.bool false, .slice none 0 0] 26 (0, 0)) (by (with_reducible repeat (first | refine k1_ ?_ _ | refine k2_ ?_ | refine k3_ ?_ _)); exact BK259.out) k_ hn_))⟩)) (below_size (by repeat (first | (with_reducible first | exact HB.out | apply b1_ | apply b2_ | apply b3_ | refine b4_ ?_ GE257.out | refine b4_ ?_ GE258.out | refine b4_ ?_ GE259.out) | exact HB.out))))
   have n2_ := a0_ (blk_below (g := gb257) (o := .cells #[.bool a0_0, .slice A0_1 l0_1.length c0_1] 26 (0, 0)) (by (with_reducible repeat (first | refine k1_ ?_ _ | refine k2_ ?_ | refine k3_ ?_ _)); exact BK257.out) hb)
   have n3_ := a0_ (blk_below (g := gb258) (o := .cells #[.bool a1_0, .slice A1_1 l1_1.length c1_1] 26 (0, 0)) (by (with_reducible repeat (first | refine k1_ ?_ _ | refine k2_ ?_ | refine k3_ ?_ _)); exact BK258.out) hb)
   have n4_ := a0_ (blk_below (g := gb259) (o := .cells #[.bool false, .slice none 0 0] 26 (0, 0)) (by (with_reducible repeat (first | refine k1_ ?_ _ | refine k2_ ?_ | refine k3_ ?_ _)); exact BK259.out) hb)
   have n5_ := a0_ (below_step (by repeat (first | (with_reducible first | exact HB.out | apply b1_ | apply b2_ | apply b3_ | refine b4_ ?_ GE257.out | refine b4_ ?_ GE258.out | refine b4_ ?_ GE259.out) | exact HB.out)) hb)
   clear HO270
   clear BK257
   clear BK258
   clear BK259
   clear HB
   have HO270 := n0_
   have HO274 := n1_
   have BK257 := n2_
   have BK258 := n3_
   have BK259 := n4_
   have HB := n5_
   clear n0_ n1_ n2_ n3_ n4_ n5_
   (try clear hb)
   (try clear hb2)
   (try clear hk)
   (try clear hi)
   (try clear ho0)
   obtain ⟨Ao38, co38, eo38⟩ := Kd.V_slice HO274.out
   (first | subst eo38 | (injection eo38 with f1_ f2_ f3_; have f4_ := f1_.symm; have f5_ := f3_.symm; clear f1_ f2_ f3_; subst f4_; subst f5_))
   refine hK.out _ _ ⟨(blk_cell BK257.out 0).trans rfl, (blk_cell BK257.out 1).trans rfl, (blk_cell BK258.out 0).trans rfl, (blk_cell BK258.out 1).trans rfl⟩ (fun hHeld => ?_)
   clear hK K
   refine norm_ (a' := ?_) ?_ ?_
   rotate_left
   ·
    show Act.put _ (some 31) _ = _
    simp only [Act.put, s1_, s2_, s3_, i64_w, i32_w]
    rfl
   refine one_ (i := 8) (N := none) #[true, true, true, true, true, true, true, true, true] rfl rfl (one_of HT_.out (by kernel_rfl)) (by decide) (fun K hK => ?_)
   have hs37 : w36.cell? ⟨gb259, 0, none⟩ = some (.bool false) := (blk_cell BK259.out 0).trans rfl
   have hfs37 := blk_frozen BK259.out 0
   have hns37_0 := NB257_259.out
   have hns37_1 := NB258_259.out
   have hms37_0 := NB259_257.out
   have hms37_1 := NB259_258.out
   have hs39 : w36.cell? ⟨gb259, 1, none⟩ = some (.slice none 0 0) := (blk_cell BK259.out 1).trans rfl
   have hfs39 := blk_frozen BK259.out 1
   have hns39_0 := NB257_259.out
   have hns39_1 := NB258_259.out
   have hms39_0 := NB259_257.out
   have hms39_1 := NB259_258.out
   refine skip_ (w1 := ?_) (by rfl) rfl ?_ ?_
   rotate_left
   ·
    go_simp
    rfl
   refine hK.out _ _ ⟨((cell_far (p := ⟨gb259, _, none⟩) NB257_259.out _).trans (((cell_far (p := ⟨gb259, _, none⟩) NB257_259.out _).trans (hHeld.1)))), ((cell_far (p := ⟨gb259, _, none⟩) NB257_259.out _).trans (((cell_far (p := ⟨gb259, _, none⟩) NB257_259.out _).trans (hHeld.2.1)))), ((cell_far (p := ⟨gb259, _, none⟩) NB258_259.out _).trans (((cell_far (p := ⟨gb259, _, none⟩) NB258_259.out _).trans (hHeld.2.2.1)))), ((cell_far (p := ⟨gb259, _, none⟩) NB258_259.out _).trans (((cell_far (p := ⟨gb259, _, none⟩) NB258_259.out _).trans (hHeld.2.2.2))))⟩ (fun hHeld => ?_)
   clear hK K
   refine done_ (done_of HT_.out (by kernel_rfl)) ?_
   try go_wp2
   refine bodyPost_ret (results_cell_row rfl _ _ gb259 26 #[.bool t271, .slice Ao38 t272.length co38] (0, 0) _ rfl (by (with_reducible repeat (first | refine k1_ ?_ _ | refine k2_ ?_ | refine k3_ ?_ _)); refine blk_put (cs := #[.bool t271, .slice none 0 0]) ?_ 1 _ rfl; (with_reducible repeat (first | refine k1_ ?_ _ | refine k2_ ?_ | refine k3_ ?_ _)); refine blk_put (cs := #[.bool false, .slice none 0 0]) ?_ 0 _ rfl; (with_reducible repeat (first | refine k1_ ?_ _ | refine k2_ ?_ | refine k3_ ?_ _)); exact BK259.out) Tryd.underlying26 rfl (by kernel_rfl)) rfl ?_
   exact ⟨_, by first | rfl | (simp [e1_, e2_] <;> rfl) | (simp [*, e1_, e2_] <;> rfl), by (with_reducible repeat (first | apply v1_ | apply v2_ | apply v3_)); exact v4_ (v5_ (p := ⟨gb259, 1, none⟩) (v5_ (p := ⟨gb259, 0, none⟩) (v4_ HO274.out (fun k_ hk => (⟨hk, hk.2.2.2⟩ : _ ∧ k_ ≠ gb259))) (fun _ hk => hk.2) (.bool t271)) (fun _ hk => hk.2) (.slice Ao38 t272.length co38)) (fun _ hk => hk.1.1), by repeat (first | (with_reducible first | exact HB.out | apply b1_ | apply b2_ | apply b3_ | refine b4_ ?_ GE257.out | refine b4_ ?_ GE258.out | refine b4_ ?_ GE259.out) | exact HB.out)⟩
  ·
   rw [if_neg c22] at H
   have c22b0 : decide (0 ≤ t267) = false := d3_ c22
   clear c22
   replace H := Option.bind_eq_some_iff.mp H
   obtain ⟨t275, A400, H⟩ := H
   replace H : ((spec_wide.f k a1_0 t275).bind fun bt278 => (some (bt278.1, bt278.2))) = some (r1, r2) := H
   have A40 := a0_ A400
   clear A400
   replace H := Option.bind_eq_some_iff.mp H
   obtain ⟨⟨t278, t279⟩, A410, H⟩ := H
   replace H : (some (t278, t279)) = some (r1, r2) := H
   have A41 := a0_ A410
   clear A410
   simp only [Option.some.injEq, Prod.mk.injEq] at H
   obtain ⟨rfl, rfl⟩ := H
   go_enter Tryd.func18, Tryd.ntmps18
   try go_wp2_with (first | ((with_reducible refine gate_dst (N := 2) rfl ?_); refine box_event ?hg (N := 2) ?hd (cs := #[.bool a0_0, .slice A0_1 l0_1.length c0_1]) (t := 26) ?hr ?_; (case hd => rfl); (case hg => rfl); (case hr => first | (go_simp; done) | (go_simp; rfl)); intro gb257 hg w42 hbox hb; have n0_ := a0_ (below_step (by repeat (first | (with_reducible first | exact HB.out | apply b1_ | apply b2_ | apply b3_) | exact HB.out)) hb); have n1_ := a0_ (hbox); have n2_ := a0_ ((by rw [hg]; exact (below_size (by repeat (first | (with_reducible first | exact HB.out | apply b1_ | apply b2_ | apply b3_) | exact HB.out))) : w.heap.size ≤ gb257)); have n3_ := a0_ ((by rw [hg]; exact (below_size (by repeat (first | (with_reducible first | exact HB.out | apply b1_ | apply b2_ | apply b3_) | exact HB.out))) : w.heap.size ≤ gb257)); clear HB; have HB := n0_; have BK257 := n1_; have GW257 := n2_; have GE257 := n3_; clear n0_ n1_ n2_ n3_; clear hb hbox hg) | ((with_reducible refine gate_dst (N := 3) rfl ?_); refine box_event ?hg (N := 3) ?hd (cs := #[.bool a1_0, .slice A1_1 l1_1.length c1_1]) (t := 26) ?hr ?_; (case hd => rfl); (case hg => rfl); (case hr => first | (go_simp; done) | (go_simp; rfl)); intro gb258 hg w43 hbox hb; have n0_ := a0_ (blk_below (g := gb257) (o := .cells #[.bool a0_0, .slice A0_1 l0_1.length c0_1] 26 (0, 0)) (by (with_reducible repeat (first | refine k1_ ?_ _ | refine k2_ ?_ | refine k3_ ?_ _)); exact BK257.out) hb); have n1_ := a0_ (below_step (by repeat (first | (with_reducible first | exact HB.out | apply b1_ | apply b2_ | apply b3_ | refine b4_ ?_ GE257.out) | exact HB.out)) hb); have n2_ := a0_ (hbox); have n3_ := a0_ ((by rw [hg]; exact (below_size (by repeat (first | (with_reducible first | exact HB.out | apply b1_ | apply b2_ | apply b3_ | refine b4_ ?_ GE257.out) | exact HB.out))) : w.heap.size ≤ gb258)); have n4_ := a0_ ((by rw [hg]; exact (below_size (by repeat (first | (with_reducible first | exact HB.out | apply b1_ | apply b2_ | apply b3_ | refine b4_ ?_ GE257.out) | exact HB.out))) : w.heap.size ≤ gb258)); have n5_ := a0_ ((by rw [hg]; exact Nat.ne_of_lt (blk_lt (g := gb257) (o := .cells #[.bool a0_0, .slice A0_1 l0_1.length c0_1] 26 (0, 0)) (by (with_reducible repeat (first | refine k1_ ?_ _ | refine k2_ ?_ | refine k3_ ?_ _)); exact BK257.out)) : gb257 ≠ gb258)); have n6_ := a0_ ((by rw [hg]; exact Nat.ne_of_gt (blk_lt (g := gb257) (o := .cells #[.bool a0_0, .slice A0_1 l0_1.length c0_1] 26 (0, 0)) (by (with_reducible repeat (first | refine k1_ ?_ _ | refine k2_ ?_ | refine k3_ ?_ _)); exact BK257.out)) : gb258 ≠ gb257)); clear BK257; clear HB; have BK257 := n0_; have HB := n1_; have BK258 := n2_; have GW258 := n3_; have GE258 := n4_; have NB257_258 := n5_; have NB258_257 := n6_; clear n0_ n1_ n2_ n3_ n4_ n5_ n6_; clear hb hbox hg) | ((with_reducible refine gate_dst (N := 4) rfl ?_); refine box_event ?hg (N := 4) ?hd (cs := #[.bool false, .slice none 0 0]) (t := 26) ?hr ?_; (case hd => rfl); (case hg => rfl); (case hr => first | (go_simp; done) | (go_simp; rfl)); intro gb259 hg w44 hbox hb; have n0_ := a0_ (blk_below (g := gb257) (o := .cells #[.bool a0_0, .slice A0_1 l0_1.length c0_1] 26 (0, 0)) (by (with_reducible repeat (first | refine k1_ ?_ _ | refine k2_ ?_ | refine k3_ ?_ _)); exact BK257.out) hb); have n1_ := a0_ (blk_below (g := gb258) (o := .cells #[.bool a1_0, .slice A1_1 l1_1.length c1_1] 26 (0, 0)) (by (with_reducible repeat (first | refine k1_ ?_ _ | refine k2_ ?_ | refine k3_ ?_ _)); exact BK258.out) hb); have n2_ := a0_ (below_step (by repeat (first | (with_reducible first | exact HB.out | apply b1_ | apply b2_ | apply b3_ | refine b4_ ?_ GE257.out | refine b4_ ?_ GE258.out) | exact HB.out)) hb); have n3_ := a0_ (hbox); have n4_ := a0_ ((by rw [hg]; exact (below_size (by repeat (first | (with_reducible first | exact HB.out | apply b1_ | apply b2_ | apply b3_ | refine b4_ ?_ GE257.out | refine b4_ ?_ GE258.out) | exact HB.out))) : w.heap.size ≤ gb259)); have n5_ := a0_ ((by rw [hg]; exact (below_size (by repeat (first | (with_reducible first | exact HB.out | apply b1_ | apply b2_ | apply b3_ | refine b4_ ?_ GE257.out | refine b4_ ?_ GE258.out) | exact HB.out))) : w.heap.size ≤ gb259)); have n6_ := a0_ ((by rw [hg]; exact Nat.ne_of_lt (blk_lt (g := gb257) (o := .cells #[.bool a0_0, .slice A0_1 l0_1.length c0_1] 26 (0, 0)) (by (with_reducible repeat (first | refine k1_ ?_ _ | refine k2_ ?_ | refine k3_ ?_ _)); exact BK257.out)) : gb257 ≠ gb259)); have n7_ := a0_ ((by rw [hg]; exact Nat.ne_of_gt (blk_lt (g := gb257) (o := .cells #[.bool a0_0, .slice A0_1 l0_1.length c0_1] 26 (0, 0)) (by (with_reducible repeat (first | refine k1_ ?_ _ | refine k2_ ?_ | refine k3_ ?_ _)); exact BK257.out)) : gb259 ≠ gb257)); have n8_ := a0_ ((by rw [hg]; exact Nat.ne_of_lt (blk_lt (g := gb258) (o := .cells #[.bool a1_0, .slice A1_1 l1_1.length c1_1] 26 (0, 0)) (by (with_reducible repeat (first | refine k1_ ?_ _ | refine k2_ ?_ | refine k3_ ?_ _)); exact BK258.out)) : gb258 ≠ gb259)); have n9_ := a0_ ((by rw [hg]; exact Nat.ne_of_gt (blk_lt (g := gb258) (o := .cells #[.bool a1_0, .slice A1_1 l1_1.length c1_1] 26 (0, 0)) (by (with_reducible repeat (first | refine k1_ ?_ _ | refine k2_ ?_ | refine k3_ ?_ _)); exact BK258.out)) : gb259 ≠ gb258)); clear BK257; clear BK258; clear HB; have BK257 := n0_; have BK258 := n1_; have HB := n2_; have BK259 := n3_; have GW259 := n4_; have GE259 := n5_; have NB257_259 := n6_; have NB259_257 := n7_; have NB258_259 := n8_; have NB259_258 := n9_; clear n0_ n1_ n2_ n3_ n4_ n5_ n6_ n7_ n8_ n9_; clear hb hbox hg; have hnb45 := NB257_258.out; have hnc45 := NB258_257.out; have hnb46 := NB257_259.out; have hnc46 := NB259_257.out; have hcz47_0 : w44.cell? ⟨gb257, 0, none⟩ = some (.bool a0_0) := (blk_cell BK257.out 0).trans rfl; have hcz47_1 : w44.cell? ⟨gb257, 1, none⟩ = some (.slice A0_1 l0_1.length c0_1) := (blk_cell BK257.out 1).trans rfl; have hfz47_0 := blk_frozen BK257.out 0; have hfz47_1 := blk_frozen BK257.out 1; have hnb48 := NB258_259.out; have hnc48 := NB259_258.out; have hcz49_0 : w44.cell? ⟨gb258, 0, none⟩ = some (.bool a1_0) := (blk_cell BK258.out 0).trans rfl; have hcz49_1 : w44.cell? ⟨gb258, 1, none⟩ = some (.slice A1_1 l1_1.length c1_1) := (blk_cell BK258.out 1).trans rfl; have hfz49_0 := blk_frozen BK258.out 0; have hfz49_1 := blk_frozen BK258.out 1) | ((with_reducible refine gate_callee (f := 21) rfl ?_); refine goesL_ (some 22) rfl rfl Tryd.func21 (by kernel_rfl) rfl #[.slice A0_1 l0_1.length c0_1, .slice A1_1 l1_1.length c1_1] rfl (by (try simp only [List.map_toArray, List.map_cons, List.map_nil]); first | done | rfl | (simp only [List.length_drop, List.length_take]; rfl)) ?_; (with_reducible refine (spec_magCmp.calls k _ _ l0_1 _ _ l1_1 t267 _ ?side1 ?side2 ?side3 ?side4 A21.out).mono ?_); (case side1 => repeat (first | exact (Kd.C_below HR0_1.out HB.out) | (with_reducible refine Kd.C_alloc ?_ _) | (with_reducible refine Kd.C_drewN ?_ _) | (with_reducible refine Kd.C_drew ?_))); (case side2 => exact HC0_1.out); (case side3 => repeat (first | exact (Kd.C_below HR1_1.out HB.out) | (with_reducible refine Kd.C_alloc ?_ _) | (with_reducible refine Kd.C_drewN ?_ _) | (with_reducible refine Kd.C_drew ?_))); (case side4 => exact HC1_1.out); rintro e w' ⟨rfl, ⟨nd, rfl⟩⟩; refine ⟨_, rfl, ?_⟩; (try (rw [drewN_self w44]; generalize hq_ : World.drewN w44 _ = w44; have n0_ : Aside0 (w44.heap[gb257]? = some (.cells #[.bool a0_0, .slice A0_1 l0_1.length c0_1] 26 (0, 0))) := ⟨by rw [← hq_]; exact (by (with_reducible repeat (first | refine k1_ ?_ _ | refine k2_ ?_ | refine k3_ ?_ _)); exact BK257.out)⟩; have n1_ : Aside0 (w44.heap[gb258]? = some (.cells #[.bool a1_0, .slice A1_1 l1_1.length c1_1] 26 (0, 0))) := ⟨by rw [← hq_]; exact (by (with_reducible repeat (first | refine k1_ ?_ _ | refine k2_ ?_ | refine k3_ ?_ _)); exact BK258.out)⟩; have n2_ : Aside0 (w44.heap[gb259]? = some (.cells #[.bool false, .slice none 0 0] 26 (0, 0))) := ⟨by rw [← hq_]; exact (by (with_reducible repeat (first | refine k1_ ?_ _ | refine k2_ ?_ | refine k3_ ?_ _)); exact BK259.out)⟩; have n3_ : Aside0 (Below w.heap.size w w44) := ⟨by rw [← hq_]; exact (by repeat (first | (with_reducible first | exact HB.out | apply b1_ | apply b2_ | apply b3_ | refine b4_ ?_ GE257.out | refine b4_ ?_ GE258.out | refine b4_ ?_ GE259.out) | exact HB.out))⟩; clear BK257 BK258 BK259 HB hq_; have BK257 := n0_; have BK258 := n1_; have BK259 := n2_; have HB := n3_; clear n0_ n1_ n2_ n3_))))
   have n0_ := a0_ (k2_ BK257.out)
   have n1_ := a0_ (k2_ BK258.out)
   have n2_ := a0_ (k2_ BK259.out)
   have n3_ := a0_ (b3_ HB.out)
   clear BK257
   clear BK258
   clear BK259
   clear HB
   have BK257 := n0_
   have BK258 := n1_
   have BK259 := n2_
   have HB := n3_
   clear n0_ n1_ n2_ n3_
   refine start_ (n := 9) (S := fun w' => w'.cell? ⟨gb258, 0, none⟩ = some (.bool a1_0) ∧ w'.cell? ⟨gb258, 1, none⟩ = some (.slice A1_1 l1_1.length c1_1) ∧ w'.cell? ⟨gb257, 0, none⟩ = some (.bool a0_0) ∧ w'.cell? ⟨gb257, 1, none⟩ = some (.slice A0_1 l0_1.length c0_1)) (ds := []) #[false, false, false, false, false, false, false, false, false] (by kernel_rfl) rfl rfl ⟨(blk_cell BK258.out 0).trans rfl, (blk_cell BK258.out 1).trans rfl, (blk_cell BK257.out 0).trans rfl, (blk_cell BK257.out 1).trans rfl⟩ (fun hHeld => ?_); refine with_tabW spec_WideAdd.tab5 spec_WideAdd.bits5 (fun HT_ HW_ => ?_)
   generalize w44.drew = w50 at BK257 BK258 BK259 HB hHeld ⊢
   refine pure_ (i := 0) (N := some 32) (v := ?_) (a' := ?_) #[true, false, false, false, false, false, false, false, false] rfl rfl (any_of HT_.out (by kernel_rfl)) (fun _ _ _ h => h) (Or.inl ⟨by rfl, ?_⟩) ?_ ?_
   rotate_left
   ·
    intro w'
    go_simp
    with_reducible rfl
   rotate_left
   ·
    simp only [Act.put, s1_, s2_, s3_, i64_w, i32_w]
    rfl
   refine pure_ (i := 2) (N := some 34) (v := ?_) (a' := ?_) #[true, false, true, false, false, false, false, false, false] rfl rfl (any_of HT_.out (by kernel_rfl)) (fun _ _ _ h => h) (Or.inl ⟨by rfl, ?_⟩) ?_ ?_
   rotate_left
   ·
    intro w'
    go_simp
    with_reducible rfl
   rotate_left
   ·
    simp only [Act.put, s1_, s2_, s3_, i64_w, i32_w]
    rfl
   refine pure_ (i := 4) (N := some 36) (v := ?_) (a' := ?_) #[true, false, true, false, true, false, false, false, false] rfl rfl (any_of HT_.out (by kernel_rfl)) (fun _ _ _ h => h) (Or.inl ⟨by rfl, ?_⟩) ?_ ?_
   rotate_left
   ·
    intro w'
    go_simp
    with_reducible rfl
   rotate_left
   ·
    simp only [Act.put, s1_, s2_, s3_, i64_w, i32_w]
    rfl
   refine take_ (i := 1) (N := some 33) (v := ?_) (a' := ?_) #[true, true, true, false, true, false, false, false, false] rfl rfl (take_ofW HT_.out HW_.out (by kernel_rfl)) (fun _ _ _ h => h) (Or.inl ⟨by rfl, ?_⟩) hHeld ?_ ?_
   rotate_left
   ·
    rintro w' ⟨s0, s1, s2, s3⟩
    go_simp
    with_reducible rfl
   rotate_left
   ·
    simp only [Act.put, s1_, s2_, s3_, i64_w, i32_w]
    rfl
   refine take_ (i := 3) (N := some 35) (v := ?_) (a' := ?_) #[true, true, true, true, true, false, false, false, false] rfl rfl (take_ofW HT_.out HW_.out (by kernel_rfl)) (fun _ _ _ h => h) (Or.inl ⟨by rfl, ?_⟩) hHeld ?_ ?_
   rotate_left
   ·
    rintro w' ⟨s0, s1, s2, s3⟩
    go_simp
    with_reducible rfl
   rotate_left
   ·
    simp only [Act.put, s1_, s2_, s3_, i64_w, i32_w]
    rfl
   refine take_ (i := 5) (N := some 37) (v := ?_) (a' := ?_) #[true, true, true, true, true, true, false, false, false] rfl rfl (take_ofW HT_.out HW_.out (by kernel_rfl)) (fun _ _ _ h => h) (Or.inl ⟨by rfl, ?_⟩) hHeld ?_ ?_
   rotate_left
   ·
    rintro w' ⟨s0, s1, s2, s3⟩
    go_simp
    with_reducible rfl
   rotate_left
   ·
    simp only [Act.put, s1_, s2_, s3_, i64_w, i32_w]
    rfl
   refine one_ (i := 6) (N := some 38) #[true, true, true, true, true, true, true, false, false] rfl rfl (one_of HT_.out (by kernel_rfl)) (by decide) (fun K hK => ?_)
   refine goes_ Tryd.func22 (by kernel_rfl) rfl #[.slice A1_1 l1_1.length c1_1, .slice A0_1 l0_1.length c0_1] (by rfl) rfl rfl (by (try simp only [List.map_toArray, List.map_cons, List.map_nil]); first | done | rfl | (simp only [List.length_drop, List.length_take]; rfl)) ?_
   with_reducible refine (spec_magSub.calls k _ _ l1_1 _ _ l0_1 t275 _ ?side1 ?side2 ?side3 ?side4 A40.out).mono ?_
   (case side1 => repeat (first | exact (Kd.C_below HR1_1.out HB.out) | (with_reducible refine Kd.C_alloc ?_ _) | (with_reducible refine Kd.C_drewN ?_ _) | (with_reducible refine Kd.C_drew ?_)))
   (case side2 => exact HC1_1.out)
   (case side3 => repeat (first | exact (Kd.C_below HR0_1.out HB.out) | (with_reducible refine Kd.C_alloc ?_ _) | (with_reducible refine Kd.C_drewN ?_ _) | (with_reducible refine Kd.C_drew ?_)))
   (case side4 => exact HC0_1.out)
   rintro e w51 ⟨v276, rfl, ho0, hb⟩
   refine ⟨_, rfl, ?_⟩
   have n0_ := a0_ (Kd.V_lower (v4_ (ok' := fun k_ => (w.heap.size ≤ k_) ∧ k_ ≠ gb257 ∧ k_ ≠ gb258 ∧ k_ ≠ gb259) ho0 (fun k_ hk_ => ⟨(Nat.le_trans (below_size (by repeat (first | (with_reducible first | exact HB.out | apply b1_ | apply b2_ | apply b3_ | refine b4_ ?_ GE257.out | refine b4_ ?_ GE258.out | refine b4_ ?_ GE259.out) | exact HB.out))) hk_), (Kd.freshB (g := gb257) (o := .cells #[.bool a0_0, .slice A0_1 l0_1.length c0_1] 26 (0, 0)) (by (with_reducible repeat (first | refine k1_ ?_ _ | refine k2_ ?_ | refine k3_ ?_ _)); exact BK257.out) k_ hk_), (Kd.freshB (g := gb258) (o := .cells #[.bool a1_0, .slice A1_1 l1_1.length c1_1] 26 (0, 0)) (by (with_reducible repeat (first | refine k1_ ?_ _ | refine k2_ ?_ | refine k3_ ?_ _)); exact BK258.out) k_ hk_), (Kd.freshB (g := gb259) (o := .cells #[.bool false, .slice none 0 0] 26 (0, 0)) (by (with_reducible repeat (first | refine k1_ ?_ _ | refine k2_ ?_ | refine k3_ ?_ _)); exact BK259.out) k_ hk_)⟩)) (below_size (by repeat (first | (with_reducible first | exact HB.out | apply b1_ | apply b2_ | apply b3_ | refine b4_ ?_ GE257.out | refine b4_ ?_ GE258.out | refine b4_ ?_ GE259.out) | exact HB.out))))
   have n1_ := a0_ (blk_below (g := gb257) (o := .cells #[.bool a0_0, .slice A0_1 l0_1.length c0_1] 26 (0, 0)) (by (with_reducible repeat (first | refine k1_ ?_ _ | refine k2_ ?_ | refine k3_ ?_ _)); exact BK257.out) hb)
   have n2_ := a0_ (blk_below (g := gb258) (o := .cells #[.bool a1_0, .slice A1_1 l1_1.length c1_1] 26 (0, 0)) (by (with_reducible repeat (first | refine k1_ ?_ _ | refine k2_ ?_ | refine k3_ ?_ _)); exact BK258.out) hb)
   have n3_ := a0_ (blk_below (g := gb259) (o := .cells #[.bool false, .slice none 0 0] 26 (0, 0)) (by (with_reducible repeat (first | refine k1_ ?_ _ | refine k2_ ?_ | refine k3_ ?_ _)); exact BK259.out) hb)
   have n4_ := a0_ (below_step (by repeat (first | (with_reducible first | exact HB.out | apply b1_ | apply b2_ | apply b3_ | refine b4_ ?_ GE257.out | refine b4_ ?_ GE258.out | refine b4_ ?_ GE259.out) | exact HB.out)) hb)
   clear BK257
   clear BK258
   clear BK259
   clear HB
   have HO277 := n0_
   have BK257 := n1_
   have BK258 := n2_
   have BK259 := n3_
   have HB := n4_
   clear n0_ n1_ n2_ n3_ n4_
   (try clear hb)
   (try clear hb2)
   (try clear hk)
   (try clear hi)
   (try clear ho0)
   obtain ⟨Ao52, co52, eo52⟩ := Kd.V_slice HO277.out
   (first | subst eo52 | (injection eo52 with f1_ f2_ f3_; have f4_ := f1_.symm; have f5_ := f3_.symm; clear f1_ f2_ f3_; subst f4_; subst f5_))
   refine hK.out _ _ ⟨(blk_cell BK258.out 0).trans rfl, (blk_cell BK258.out 1).trans rfl, (blk_cell BK257.out 0).trans rfl, (blk_cell BK257.out 1).trans rfl⟩ (fun hHeld => ?_)
   clear hK K
   refine norm_ (a' := ?_) ?_ ?_
   rotate_left
   ·
    show Act.put _ (some 38) _ = _
    simp only [Act.put, s1_, s2_, s3_, i64_w, i32_w]
    rfl
   refine one_ (i := 7) (N := some 39) #[true, true, true, true, true, true, true, true, false] rfl rfl (one_of HT_.out (by kernel_rfl)) (by decide) (fun K hK => ?_)
   refine goes_ Tryd.func12 (by kernel_rfl) rfl #[.bool a1_0, .slice Ao52 t275.length co52] (by rfl) rfl rfl (by (try simp only [List.map_toArray, List.map_cons, List.map_nil]); first | done | rfl | (simp only [List.length_drop, List.length_take]; rfl)) ?_
   with_reducible refine (spec_wide.calls k a1_0 (fun k_ => ((w.heap.size ≤ k_) ∧ (k_ ≠ gb257 ∧ (k_ ≠ gb258 ∧ k_ ≠ gb259)))) _ _ t275 t278 t279 _ ?side1 A41.out).mono ?_
   (case side1 => exact HO277.out)
   rintro e w53 ⟨v280, rfl, ho0, hb⟩
   refine ⟨_, rfl, ?_⟩
   have n0_ := a0_ (Kd.V_below (by (with_reducible repeat (first | apply v1_ | apply v2_ | apply v3_)); exact HO277.out) hb)
   have n1_ := a0_ (Kd.V_lower (v4_ (ok' := fun k_ => (w.heap.size ≤ k_) ∧ k_ ≠ gb257 ∧ k_ ≠ gb258 ∧ k_ ≠ gb259) ho0 (fun k_ hk_ => ⟨Or.elim hk_ (fun hs_ => hs_.1) (fun hn_ => (Nat.le_trans (below_size (by repeat (first | (with_reducible first | exact HB.out | apply b1_ | apply b2_ | apply b3_ | refine b4_ ?_ GE257.out | refine b4_ ?_ GE258.out | refine b4_ ?_ GE259.out) | exact HB.out))) hn_)), Or.elim hk_ (fun hs_ => hs_.2.1) (fun hn_ => (Kd.freshB (g := gb257) (o := .cells #[.bool a0_0, .slice A0_1 l0_1.length c0_1] 26 (0, 0)) (by (with_reducible repeat (first | refine k1_ ?_ _ | refine k2_ ?_ | refine k3_ ?_ _)); exact BK257.out) k_ hn_)), Or.elim hk_ (fun hs_ => hs_.2.2.1) (fun hn_ => (Kd.freshB (g := gb258) (o := .cells #[.bool a1_0, .slice A1_1 l1_1.length c1_1] 26 (0, 0)) (by (with_reducible repeat (first | refine k1_ ?_ _ | refine k2_ ?_ | refine k3_ ?_ _)); exact BK258.out) k_ hn_)), Or.elim hk_ (fun hs_ => hs_.2.2.2) (fun hn_ => (Kd.freshB (g := gb259) (o := .cells #[.bool false, .slice none 0 0] 26 (0, 0)) (by (with_reducible repeat (first | refine k1_ ?_ _ | refine k2_ ?_ | refine k3_ ?_ _)); exact BK259.out) k_ hn_))⟩)) (below_size (by repeat (first | (with_reducible first | exact HB.out | apply b1_ | apply b2_ | apply b3_ | refine b4_ ?_ GE257.out | refine b4_ ?_ GE258.out | refine b4_ ?_ GE259.out) | exact HB.out))))
   have n2_ := a0_ (blk_below (g := gb257) (o := .cells #[.bool a0_0, .slice A0_1 l0_1.length c0_1] 26 (0, 0)) (by (with_reducible repeat (first | refine k1_ ?_ _ | refine k2_ ?_ | refine k3_ ?_ _)); exact BK257.out) hb)
   have n3_ := a0_ (blk_below (g := gb258) (o := .cells #[.bool a1_0, .slice A1_1 l1_1.length c1_1] 26 (0, 0)) (by (with_reducible repeat (first | refine k1_ ?_ _ | refine k2_ ?_ | refine k3_ ?_ _)); exact BK258.out) hb)
   have n4_ := a0_ (blk_below (g := gb259) (o := .cells #[.bool false, .slice none 0 0] 26 (0, 0)) (by (with_reducible repeat (first | refine k1_ ?_ _ | refine k2_ ?_ | refine k3_ ?_ _)); exact BK259.out) hb)
   have n5_ := a0_ (below_step (by repeat (first | (with_reducible first | exact HB.out | apply b1_ | apply b2_ | apply b3_ | refine b4_ ?_ GE257.out | refine b4_ ?_ GE258.out | refine b4_ ?_ GE259.out) | exact HB.out)) hb)
   clear HO277
   clear BK257
   clear BK258
   clear BK259
   clear HB
   have HO277 := n0_
   have HO281 := n1_
   have BK257 := n2_
   have BK258 := n3_
   have BK259 := n4_
   have HB := n5_
   clear n0_ n1_ n2_ n3_ n4_ n5_
   (try clear hb)
   (try clear hb2)
   (try clear hk)
   (try clear hi)
   (try clear ho0)
   obtain ⟨Ao55, co55, eo55⟩ := Kd.V_slice HO281.out
   (first | subst eo55 | (injection eo55 with f1_ f2_ f3_; have f4_ := f1_.symm; have f5_ := f3_.symm; clear f1_ f2_ f3_; subst f4_; subst f5_))
   refine hK.out _ _ ⟨(blk_cell BK258.out 0).trans rfl, (blk_cell BK258.out 1).trans rfl, (blk_cell BK257.out 0).trans rfl, (blk_cell BK257.out 1).trans rfl⟩ (fun hHeld => ?_)
   clear hK K
   refine norm_ (a' := ?_) ?_ ?_
   rotate_left
   ·
    show Act.put _ (some 39) _ = _
    simp only [Act.put, s1_, s2_, s3_, i64_w, i32_w]
    rfl
   refine one_ (i := 8) (N := none) #[true, true, true, true, true, true, true, true, true] rfl rfl (one_of HT_.out (by kernel_rfl)) (by decide) (fun K hK => ?_)
   have hs54 : w53.cell? ⟨gb259, 0, none⟩ = some (.bool false) := (blk_cell BK259.out 0).trans rfl
   have hfs54 := blk_frozen BK259.out 0
   have hns54_0 := NB257_259.out
   have hns54_1 := NB258_259.out
   have hms54_0 := NB259_257.out
   have hms54_1 := NB259_258.out
   have hs56 : w53.cell? ⟨gb259, 1, none⟩ = some (.slice none 0 0) := (blk_cell BK259.out 1).trans rfl
   have hfs56 := blk_frozen BK259.out 1
   have hns56_0 := NB257_259.out
   have hns56_1 := NB258_259.out
   have hms56_0 := NB259_257.out
   have hms56_1 := NB259_258.out
   refine skip_ (w1 := ?_) (by rfl) rfl ?_ ?_
   rotate_left
   ·
    go_simp
    rfl
   refine hK.out _ _ ⟨((cell_far (p := ⟨gb259, _, none⟩) NB258_259.out _).trans (((cell_far (p := ⟨gb259, _, none⟩) NB258_259.out _).trans (hHeld.1)))), ((cell_far (p := ⟨gb259, _, none⟩) NB258_259.out _).trans (((cell_far (p := ⟨gb259, _, none⟩) NB258_259.out _).trans (hHeld.2.1)))), ((cell_far (p := ⟨gb259, _, none⟩) NB257_259.out _).trans (((cell_far (p := ⟨gb259, _, none⟩) NB257_259.out _).trans (hHeld.2.2.1)))), ((cell_far (p := ⟨gb259, _, none⟩) NB257_259.out _).trans (((cell_far (p := ⟨gb259, _, none⟩) NB257_259.out _).trans (hHeld.2.2.2))))⟩ (fun hHeld => ?_)
   clear hK K
   refine done_ (done_of HT_.out (by kernel_rfl)) ?_
   try go_wp2
   refine bodyPost_ret (results_cell_row rfl _ _ gb259 26 #[.bool t278, .slice Ao55 t279.length co55] (0, 0) _ rfl (by (with_reducible repeat (first | refine k1_ ?_ _ | refine k2_ ?_ | refine k3_ ?_ _)); refine blk_put (cs := #[.bool t278, .slice none 0 0]) ?_ 1 _ rfl; (with_reducible repeat (first | refine k1_ ?_ _ | refine k2_ ?_ | refine k3_ ?_ _)); refine blk_put (cs := #[.bool false, .slice none 0 0]) ?_ 0 _ rfl; (with_reducible repeat (first | refine k1_ ?_ _ | refine k2_ ?_ | refine k3_ ?_ _)); exact BK259.out) Tryd.underlying26 rfl (by kernel_rfl)) rfl ?_
   exact ⟨_, by first | rfl | (simp [e1_, e2_] <;> rfl) | (simp [*, e1_, e2_] <;> rfl), by (with_reducible repeat (first | apply v1_ | apply v2_ | apply v3_)); exact v4_ (v5_ (p := ⟨gb259, 1, none⟩) (v5_ (p := ⟨gb259, 0, none⟩) (v4_ HO281.out (fun k_ hk => (⟨hk, hk.2.2.2⟩ : _ ∧ k_ ≠ gb259))) (fun _ hk => hk.2) (.bool t278)) (fun _ hk => hk.2) (.slice Ao55 t279.length co55)) (fun _ hk => hk.1.1), by repeat (first | (with_reducible first | exact HB.out | apply b1_ | apply b2_ | apply b3_ | refine b4_ ?_ GE257.out | refine b4_ ?_ GE258.out | refine b4_ ?_ GE259.out) | exact HB.out)⟩


end Go.Proofs.YtiiicmfobljnaaaDoor.V
