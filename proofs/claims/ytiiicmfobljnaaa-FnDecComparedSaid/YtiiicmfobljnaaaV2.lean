import Derived.Test.YtiiicmfobljnaaaV1
namespace Go.Proofs.Ytiiicmfobljnaaa.V
open Go.RowKit Go.Proofs.YtiiicmfobljnaaaW.PrintWords Go.Proofs.YtiiicmfobljnaaaW.PrintLast Go.Proofs.YtiiicmfobljnaaaW.PrintMore
attribute [local go_sem] max2_int min2_int max_two min_two max_three min_three max_four min_four
set_option linter.unusedVariables false
set_option linter.unusedSimpArgs false

/-! ### spec_magDiv: function 29 -/
mutual
def spec_magDiv.l0 : Nat → List Int → List Int → List Int → List Int → Int → Option (List Int × List Int)
 | 0, _, _, _, _, _ => none
 | k + 1, x0, x1, x4, x5, x6 => if x6 ≥ 0 then ((spec_magAdd.f k x5 x5).bind fun t243 => (if 0 ≤ (wrap64 (Int.tdiv x6 32)) then (if (wrap64 (Int.tdiv x6 32)) < (x0.length : Int) then (if 0 ≤ (Int.tmod x6 32) then (if (Go.bits .and .u32 (shr .u32 (rd x0 (wrap64 (Int.tdiv x6 32))) (Int.tmod x6 32)) 1) = 1 then ((spec_magAdd.f k t243 (([1] : List Int))).bind fun t250 => (spec_magDiv.j1 k x0 x1 x4 t250 x6)) else (spec_magDiv.j1 k x0 x1 x4 t243 x6)) else (none)) else (none)) else (none))) else ((spec_trim.f k x4).bind fun t240 => (some (t240, x5)))
def spec_magDiv.j1 : Nat → List Int → List Int → List Int → List Int → Int → Option (List Int × List Int)
 | 0, _, _, _, _, _ => none
 | k + 1, x0, x1, x4, x5, x6 => (spec_trim.f k x5).bind fun t253 => ((spec_magCmp.f k t253 x1).bind fun t256 => (if t256 ≥ 0 then ((spec_magSub.f k t253 x1).bind fun t257 => (if 0 ≤ (wrap64 (Int.tdiv x6 32)) then (if (wrap64 (Int.tdiv x6 32)) < (x4.length : Int) then (if 0 ≤ (Int.tmod x6 32) then (spec_magDiv.l0 k x0 x1 (x4.set ((wrap64 (Int.tdiv x6 32)) : Int).toNat (Go.bits .or .u32 (rd x4 (wrap64 (Int.tdiv x6 32))) (shl .u32 1 (Int.tmod x6 32)))) t257 (wrap64 (x6 - 1))) else (none)) else (none)) else (none))) else (spec_magDiv.l0 k x0 x1 x4 t253 (wrap64 (x6 - 1)))))
end
def spec_magDiv.f (k : Nat) (l0 : List Int) (l1 : List Int) : Option (List Int × List Int) := if 0 ≤ (l0.length : Int) then (if ((l0.length : Int) : Int).toNat ≤ 70368744177664 then (spec_magDiv.l0 k l0 l1 (List.replicate ((l0.length : Int) : Int).toNat 0) ([] : List Int) (wrap64 ((wrap64 (32 * (l0.length : Int))) - 1))) else (none)) else (none)
def spec_magDiv.T11 : Bool × List (List Nat × List Nat) := (true, [([], []), ([], []), ([1], [1]), ([0, 2], [0, 2]), ([3], [3]), ([], []), ([5], [5]), ([6], [6]), ([4, 7], [4, 7]), ([0, 2, 0, 1, 2, 3, 4, 5, 6, 7, 8], [0, 2]), ([9, 8, 0, 1, 2, 3, 4, 5, 6, 7, 8], [8, 9])])
def spec_magDiv.B11 : List Nat := [0, 0, 2, 7, 15, 0, 32, 96, 255, 511, 1023]
theorem spec_magDiv.tab11 : rtab .any (opsOf Try.f29 11) = spec_magDiv.T11 := by kernel_rfl
theorem spec_magDiv.bits11 : waitsOk spec_magDiv.T11.2 spec_magDiv.B11 = true := by kernel_rfl
set_option maxHeartbeats 8000000 in
set_option maxRecDepth 100000 in
theorem spec_magDiv.calls (k : Nat) (A0 : Option Addr) (c0 : Nat) (l0 : List Int) (A1 : Option Addr) (c1 : Nat) (l1 : List Int) (r1 : List Int) (r2 : List Int) (w : World) (hr0 : Kd.C (Kd.int .u32) w A0 l0.length l0) (hc0 : l0.length ≤ c0) (hr1 : Kd.C (Kd.int .u32) w A1 l1.length l1) (hc1 : l1.length ≤ c1) (h : spec_magDiv.f k l0 l1 = some (r1, r2)) :
  Calls Try.prog 29 #[.slice A0 l0.length c0, .slice A1 l1.length c1] w fun e w' => ∃ v0_ v1_ : Value, e = .returned (.tuple #[v0_, v1_]) ∧ Kd.V (Kd.int .u32) 96 w' w.heap.size (fun k_ => (w.heap.size ≤ k_)) v0_ r1 ∧ Kd.V (Kd.int .u32) 96 w' w.heap.size (fun k_ => (w.heap.size ≤ k_)) v1_ r2 ∧ Below w.heap.size w w' := by
 have HR0 := a0_ hr0
 have HC0 := a0_ hc0
 clear hr0 hc0
 have HR1 := a0_ hr1
 have HC1 := a0_ hc1
 clear hr1 hc1
 have HB := a0_ (Below.refl w.heap.size w)
 have H : (if 0 ≤ (l0.length : Int) then (if ((l0.length : Int) : Int).toNat ≤ 70368744177664 then (spec_magDiv.l0 k l0 l1 (List.replicate ((l0.length : Int) : Int).toNat 0) ([] : List Int) (wrap64 ((wrap64 (32 * (l0.length : Int))) - 1))) else (none)) else (none)) = some (r1, r2) := h
 clear h
 by_cases c3 : 0 ≤ (l0.length : Int)
 ·
  rw [if_pos c3] at H
  have c3b0 := eq_true c3
  have c3b1 : decide (0 ≤ (l0.length : Int)) = true := d2_ c3
  clear c3
  by_cases c4 : ((l0.length : Int) : Int).toNat ≤ 70368744177664
  ·
   rw [if_pos c4] at H
   have c4b0 := eq_true c4
   have c4b1 : decide (((l0.length : Int) : Int).toNat ≤ 70368744177664) = true := d2_ c4
   clear c4
   obtain ⟨y237, hy237⟩ : ∃ y_ : List Int, y_ = (List.replicate ((l0.length : Int) : Int).toNat 0) := ⟨_, rfl⟩
   replace H : (spec_magDiv.l0 k l0 l1 y237 ([] : List Int) (wrap64 ((wrap64 (32 * (l0.length : Int))) - 1))) = some (r1, r2) := by first | (rw [hy237]; with_reducible exact H) | (have H2_ := (o2_ _ _).symm.trans H; rw [hy237]; with_reducible exact H2_) | (have H2_ := (o2_ _ _).symm.trans H; with_reducible exact H2_) | with_reducible exact H | (rw [hy237]; exact H) | exact H
   have Ny237 := a0_ hy237
   clear hy237
   have H' := a0_ H
   clear H
   go_enter Try.func29, Try.ntmps29
   go_wp2_with (first | ((with_reducible refine gate_dst (N := 9) rfl ?_); refine Kd.R_make (Kd.int .u32) _ 96 rfl (N := 9) rfl 27 _ _ rfl (l0.length : Int) rfl rfl Try.underlying27 (.int .u32 0) 4 info96 rfl (by decide) (by omega) 0 (ok := fun _ => True) (okp := fun _ => True) rfl (fun _ hk => hk) trivial (d1_ (by first | (with_reducible assumption) | assumption)) (Nat.le_trans (Nat.mul_le_mul_right _ (d1_ (by first | (with_reducible assumption) | assumption) : (l0.length : Int).toNat ≤ 70368744177664)) (by omega)) (Below.refl _ _) (Nat.le_refl _) ?_; intro v238 w5 ho6 hb hg_ hnew_; clear hg_ hnew_; (first | rw [← Ny237.out] at ho6 | (simp only [Int.reduceToNat] at ho6; rw [← Ny237.out] at ho6)); have n0_ := a0_ (Kd.R_lower (Kd.R_newM (M := fun k_ => (w.heap.size ≤ k_)) ho6 (below_size (by repeat (first | (with_reducible first | exact HB.out | apply b1_ | apply b2_ | apply b3_) | exact HB.out))) (fun k_ h_ => h_)) (below_size (by repeat (first | (with_reducible first | exact HB.out | apply b1_ | apply b2_ | apply b3_) | exact HB.out)))); have n1_ := a0_ (below_step (by repeat (first | (with_reducible first | exact HB.out | apply b1_ | apply b2_ | apply b3_) | exact HB.out)) hb); clear HB; have HO239 := n0_; have HB := n1_; clear n0_ n1_; clear hb ho6))
   go_loopg [5, 6] k (fun kq v5 v6 w' => ∃ (x4_1 : List Int) (x5_1 : List Int) (x6_1 : Int), v6 = .int .i64 x6_1 ∧ Aside0 (spec_magDiv.l0 kq l0 l1 x4_1 x5_1 x6_1 = some (r1, r2)) ∧ Aside0 (kq ≤ k) ∧ Aside0 (Kd.R (Kd.int .u32) 96 w' w.heap.size (fun k_ => (w.heap.size ≤ k_)) v238 x4_1) ∧ Aside0 (Kd.V (Kd.int .u32) 96 w' w.heap.size (fun k_ => (w.heap.size ≤ k_) ∧ some k_ ≠ (v238 : Value).ownBlock) v5 x5_1) ∧ Aside0 (Below w.heap.size w w'))
   case atStart => exact ⟨(y237), (([] : List Int)), (wrap64 ((wrap64 (32 * (l0.length : Int))) - 1)), (by first | rfl | (simp; done) | (simp [*]; done)), H', ⟨Nat.le_refl _⟩, ⟨by (with_reducible repeat (first | apply r1_ | apply r2_ | apply r3_)); exact Kd.R_mono HO239.out (fun _ hk => hk.1)⟩, ⟨Kd.V_nil _ _ _ _ _⟩, ⟨by repeat (first | (with_reducible first | exact HB.out | apply b1_ | apply b2_ | apply b3_) | exact HB.out)⟩⟩
   case round =>
    clear H'
    try clear c1
    try clear c2
    try clear p2
    try clear c3
    try clear c3b0
    try clear c3b1
    try clear c4
    try clear c4b0
    try clear c4b1
    try clear p6
    obtain ⟨x4_1, x5_1, x6_1, rfl, HA, HK1, HO_4, HO_5, HB⟩ := hrel
    cases gk with
    | zero => exact absurd HA.out (by simp [spec_magDiv.l0])
    | succ k1 =>
     have H := HA.out
     clear HA
     simp only [spec_magDiv.l0] at H
     by_cases c7 : x6_1 ≥ 0
     ·
      rw [if_pos c7] at H
      have c7b0 : decide (0 ≤ x6_1) = true := d2_ c7
      clear c7
      replace H := Option.bind_eq_some_iff.mp H
      obtain ⟨t243, A80, H⟩ := H
      replace H : (if 0 ≤ (wrap64 (Int.tdiv x6_1 32)) then (if (wrap64 (Int.tdiv x6_1 32)) < (l0.length : Int) then (if 0 ≤ (Int.tmod x6_1 32) then (if (Go.bits .and .u32 (shr .u32 (rd l0 (wrap64 (Int.tdiv x6_1 32))) (Int.tmod x6_1 32)) 1) = 1 then ((spec_magAdd.f k1 t243 (([1] : List Int))).bind fun t250 => (spec_magDiv.j1 k1 l0 l1 x4_1 t250 x6_1)) else (spec_magDiv.j1 k1 l0 l1 x4_1 t243 x6_1)) else (none)) else (none)) else (none)) = some (r1, r2) := H
      have A8 := a0_ A80
      clear A80
      obtain ⟨ji9, hji9⟩ : ∃ j_ : Int, (wrap64 (Int.tdiv x6_1 32)) = j_ := ⟨_, rfl⟩
      replace H : (if 0 ≤ (ji9) then (if (ji9) < (l0.length : Int) then (if 0 ≤ (Int.tmod x6_1 32) then (if (Go.bits .and .u32 (shr .u32 (rd l0 (ji9)) (Int.tmod x6_1 32)) 1) = 1 then ((spec_magAdd.f k1 t243 (([1] : List Int))).bind fun t250 => (spec_magDiv.j1 k1 l0 l1 x4_1 t250 x6_1)) else (spec_magDiv.j1 k1 l0 l1 x4_1 t243 x6_1)) else (none)) else (none)) else (none)) = some (r1, r2) := by first | (rw [hji9] at H; exact H) | (simp only [hji9] at H ⊢; exact H)
      (try rw [hji9] at A8)
      have hji9w : (IntKind.i64.wrap (Int.tdiv x6_1 32)) = ji9 := (i64_w _).trans hji9
      by_cases c10 : 0 ≤ (ji9)
      ·
       rw [if_pos c10] at H
       have c10b0 : decide (0 ≤ (ji9)) = true := d2_ c10
       clear c10
       by_cases c11 : (ji9) < (l0.length : Int)
       ·
        rw [if_pos c11] at H
        have c11b0 : decide ((ji9) < (l0.length : Int)) = true := d2_ c11
        clear c11
        obtain ⟨ji12, hji12⟩ : ∃ j_ : Int, (Int.tmod x6_1 32) = j_ := ⟨_, rfl⟩
        replace H : (if 0 ≤ (ji12) then (if (Go.bits .and .u32 (shr .u32 (rd l0 (ji9)) (ji12)) 1) = 1 then ((spec_magAdd.f k1 t243 (([1] : List Int))).bind fun t250 => (spec_magDiv.j1 k1 l0 l1 x4_1 t250 x6_1)) else (spec_magDiv.j1 k1 l0 l1 x4_1 t243 x6_1)) else (none)) = some (r1, r2) := by first | (rw [hji12] at H; exact H) | (simp only [hji12] at H ⊢; exact H)
        (try rw [hji12] at A8)
        by_cases c13 : 0 ≤ (ji12)
        ·
         rw [if_pos c13] at H
         have c13b0 := eq_true c13
         have c13b1 : decide (0 ≤ (ji12)) = true := d2_ c13
         clear c13
         obtain ⟨ji14, hji14⟩ : ∃ j_ : Int, (shr .u32 (rd l0 (ji9)) (ji12)) = j_ := ⟨_, rfl⟩
         replace H : (if (Go.bits .and .u32 (ji14) 1) = 1 then ((spec_magAdd.f k1 t243 (([1] : List Int))).bind fun t250 => (spec_magDiv.j1 k1 l0 l1 x4_1 t250 x6_1)) else (spec_magDiv.j1 k1 l0 l1 x4_1 t243 x6_1)) = some (r1, r2) := by first | (rw [hji14] at H; exact H) | (simp only [hji14] at H ⊢; exact H)
         (try rw [hji14] at A8)
         have hji14_ : ((rd l0 (ji9)) / 2 ^ min (ji12).toNat 32) = ji14 := hji14
         have hji14z : (ji12) ≤ 32 → ((rd l0 (ji9)) / 2 ^ (ji12).toNat) = ji14 := shr_small hji14
         have HC15 := a0_ H
         clear H
         obtain ⟨Ao16, co16, eo16⟩ := Kd.V_slice HO_5.out
         subst eo16
         go_upto_if 30 with (first | ((with_reducible refine gate_callee (f := 38) rfl ?_); refine goesL_ (some 20) rfl rfl Try.func38 (by kernel_rfl) rfl #[.slice Ao16 x5_1.length co16, .slice Ao16 x5_1.length co16] rfl (by (try simp only [List.map_toArray, List.map_cons, List.map_nil]); first | done | rfl | (simp only [List.length_drop, List.length_take]; rfl)) ?_; (with_reducible refine (spec_magAdd.calls k1 _ _ x5_1 _ _ x5_1 t243 _ ?side1 ?side2 ?side3 ?side4 A8.out).mono ?_); (case side1 => repeat (first | exact (Kd.V_reads' HO_5.out).2.2 | (with_reducible refine Kd.C_alloc ?_ _) | (with_reducible refine Kd.C_drewN ?_ _) | (with_reducible refine Kd.C_drew ?_))); (case side2 => exact (Kd.V_reads' HO_5.out).2.1); (case side3 => repeat (first | exact (Kd.V_reads' HO_5.out).2.2 | (with_reducible refine Kd.C_alloc ?_ _) | (with_reducible refine Kd.C_drewN ?_ _) | (with_reducible refine Kd.C_drew ?_))); (case side4 => exact (Kd.V_reads' HO_5.out).2.1); rintro e w17 ⟨v244, rfl, ho0, hb⟩; refine ⟨_, rfl, ?_⟩; have n0_ := a0_ (Kd.R_elder' (by (with_reducible repeat (first | apply r1_ | apply r2_ | apply r3_)); exact HO_4.out) (Kd.R_base ho0) hb); have n1_ := a0_ (Kd.V_elder' (by (with_reducible repeat (first | apply v1_ | apply v2_ | apply v3_)); exact HO_5.out) (Kd.R_base ho0) hb); have n2_ := a0_ (Kd.R_lower (Kd.R_new' (Kd.R_newM (M := fun k_ => (w.heap.size ≤ k_)) ho0 (below_size (by repeat (first | (with_reducible first | exact HB.out | apply b1_ | apply b2_ | apply b3_) | exact HB.out))) (fun k_ h_ => h_)) (Kd.R_lt (by (with_reducible repeat (first | apply r1_ | apply r2_ | apply r3_)); exact HO_4.out))) (below_size (by repeat (first | (with_reducible first | exact HB.out | apply b1_ | apply b2_ | apply b3_) | exact HB.out)))); have n3_ := a0_ (below_step (by repeat (first | (with_reducible first | exact HB.out | apply b1_ | apply b2_ | apply b3_) | exact HB.out)) hb); clear HO_4; clear HO_5; clear HB; have HO_4 := n0_; have HO_5 := n1_; have HO245 := n2_; have HB := n3_; clear n0_ n1_ n2_ n3_; (try clear hb); (try clear hb2); (try clear hk); (try clear hi); (try clear ho0); have p246 : 0 ≤ ((ji9) : Int) := d1_ (by first | (with_reducible assumption) | assumption); have q246 : (ji9) < (l0.length : Int) := d1_ (by first | (with_reducible assumption) | assumption); obtain ⟨ad246, e246, hx246_0⟩ := Kd.at_int HR0.out (ji9) p246 q246; cases e246; replace hx246_0 := (HB.out.cell (World.block_lt_of_cell? w _ hx246_0)).trans hx246_0; replace p246 := eq_true p246; replace q246 := eq_true q246))
         (try simp only [Act.put, s1_, s2_, s3_])
         go_cut [5] (fun v5 wc => ∃ (kq : Nat) (x5_14 : List Int), Aside0 (spec_magDiv.j1 kq l0 l1 x4_1 x5_14 x6_1 = some (r1, r2)) ∧ Aside0 (kq ≤ k1) ∧ Aside0 (Kd.R (Kd.int .u32) 96 wc w.heap.size (fun k_ => (w.heap.size ≤ k_) ∧ some k_ ≠ (v5 : Value).ownBlock) v238 x4_1) ∧ Aside0 (Kd.R (Kd.int .u32) 96 wc w.heap.size (fun k_ => (w.heap.size ≤ k_) ∧ some k_ ≠ (v238 : Value).ownBlock) v5 x5_14) ∧ Aside0 (Below w.heap.size w wc))
         case first =>
          have H := HC15.out
          clear HC15
          by_cases c18 : (Go.bits .and .u32 (ji14) 1) = 1
          ·
           rw [if_pos c18] at H
           have c18b0 : ((Go.bits .and .u32 (ji14) 1) == 1) = true := beq_iff_eq.mpr c18
           have c18b1 : ((Go.bits .and .u32 (ji14) 1) != 1) = false := bne_eq_false_iff_eq.mpr c18
           clear c18
           (first | rw [c18b0] | (simp only [i64_w, i32_w]; rw [c18b0]) | skip)
           obtain ⟨y247, hy247⟩ : ∃ y_ : List Int, y_ = (([1] : List Int)) := ⟨_, rfl⟩
           replace H : ((spec_magAdd.f k1 t243 y247).bind fun t250 => (spec_magDiv.j1 k1 l0 l1 x4_1 t250 x6_1)) = some (r1, r2) := by first | (rw [hy247]; with_reducible exact H) | (have H2_ := (o2_ _ _).symm.trans H; rw [hy247]; with_reducible exact H2_) | (have H2_ := (o2_ _ _).symm.trans H; with_reducible exact H2_) | with_reducible exact H | (rw [hy247]; exact H) | exact H
           have Ny247 := a0_ hy247
           clear hy247
           replace H := Option.bind_eq_some_iff.mp H
           obtain ⟨t250, A190, H⟩ := H
           replace H : (spec_magDiv.j1 k1 l0 l1 x4_1 t250 x6_1) = some (r1, r2) := H
           have A19 := a0_ A190
           clear A190
           have H' := a0_ H
           clear H
           go_wp2_with (first | ((with_reducible refine gate_dst (N := 32) rfl ?_); refine Kd.R_lit (Kd.int .u32) _ 96 ?hg (N := 32) ?hd (xs := ([1] : List Int)) (inner := [.int .u32 1]) (ok := fun _ => True) (okp := fun _ => True) ?hr ?hp (fun _ hk => hk) trivial (Below.refl _ _) (Nat.le_refl _) (by simp) ?_; (case hd => rfl); (case hg => rfl); (case hr => first | (go_simp; done) | (go_simp; rfl)); (case hp => exact (Reps.one (show Kd.M (Kd.int .u32) _ _ _ 1 [.int .u32 1] from rfl) (Reps.none _ _))); intro v248 w20 ho21 hb hg_ hnew_; clear hg_ hnew_; (first | rw [← Ny247.out] at ho21 | (simp only [Int.reduceToNat] at ho21; rw [← Ny247.out] at ho21)); have n0_ := a0_ (Kd.R_elder' (by (with_reducible repeat (first | apply r1_ | apply r2_ | apply r3_)); exact HO_4.out) (Kd.R_base ho21) hb); have n1_ := a0_ (Kd.V_elder' (by (with_reducible repeat (first | apply v1_ | apply v2_ | apply v3_)); exact HO_5.out) (Kd.R_base ho21) hb); have n2_ := a0_ (Kd.R_elder' (by (with_reducible repeat (first | apply r1_ | apply r2_ | apply r3_)); exact HO245.out) (Kd.R_base ho21) hb); have n3_ := a0_ (Kd.R_lower (Kd.R_new' (Kd.R_new' (Kd.R_newM (M := fun k_ => (w.heap.size ≤ k_)) ho21 (below_size (by repeat (first | (with_reducible first | exact HB.out | apply b1_ | apply b2_ | apply b3_) | exact HB.out))) (fun k_ h_ => h_)) (Kd.R_lt (by (with_reducible repeat (first | apply r1_ | apply r2_ | apply r3_)); exact HO_4.out))) (Kd.R_lt (by (with_reducible repeat (first | apply r1_ | apply r2_ | apply r3_)); exact HO245.out))) (below_size (by repeat (first | (with_reducible first | exact HB.out | apply b1_ | apply b2_ | apply b3_) | exact HB.out)))); have n4_ := a0_ (below_step (by repeat (first | (with_reducible first | exact HB.out | apply b1_ | apply b2_ | apply b3_) | exact HB.out)) hb); clear HO_4; clear HO_5; clear HO245; clear HB; have HO_4 := n0_; have HO_5 := n1_; have HO245 := n2_; have HO249 := n3_; have HB := n4_; clear n0_ n1_ n2_ n3_ n4_; clear hb ho21; obtain ⟨Ao22, co22, eo22⟩ := Kd.R_slice HO245.out; subst eo22; obtain ⟨Ao23, co23, eo23⟩ := Kd.R_slice HO249.out; subst eo23) | ((with_reducible refine gate_callee (f := 38) rfl ?_); refine goesL_ (some 33) rfl rfl Try.func38 (by kernel_rfl) rfl #[.slice Ao22 t243.length co22, .slice Ao23 y247.length co23] rfl (by (try simp only [List.map_toArray, List.map_cons, List.map_nil]); first | done | rfl | (simp only [List.length_drop, List.length_take]; rfl)) ?_; (with_reducible refine (spec_magAdd.calls k1 _ _ t243 _ _ y247 t250 _ ?side1 ?side2 ?side3 ?side4 A19.out).mono ?_); (case side1 => repeat (first | exact (Kd.R_reads' HO245.out).2.2 | (with_reducible refine Kd.C_alloc ?_ _) | (with_reducible refine Kd.C_drewN ?_ _) | (with_reducible refine Kd.C_drew ?_))); (case side2 => exact (Kd.R_reads' HO245.out).2.1); (case side3 => repeat (first | exact (Kd.R_reads' HO249.out).2.2 | (with_reducible refine Kd.C_alloc ?_ _) | (with_reducible refine Kd.C_drewN ?_ _) | (with_reducible refine Kd.C_drew ?_))); (case side4 => exact (Kd.R_reads' HO249.out).2.1); rintro e w24 ⟨v251, rfl, ho0, hb⟩; refine ⟨_, rfl, ?_⟩; have n0_ := a0_ (Kd.R_elder' (by (with_reducible repeat (first | apply r1_ | apply r2_ | apply r3_)); exact HO_4.out) (Kd.R_base ho0) hb); have n1_ := a0_ (Kd.V_elder' (by (with_reducible repeat (first | apply v1_ | apply v2_ | apply v3_)); exact HO_5.out) (Kd.R_base ho0) hb); have n2_ := a0_ (Kd.R_elder' (by (with_reducible repeat (first | apply r1_ | apply r2_ | apply r3_)); exact HO245.out) (Kd.R_base ho0) hb); have n3_ := a0_ (Kd.R_elder' (by (with_reducible repeat (first | apply r1_ | apply r2_ | apply r3_)); exact HO249.out) (Kd.R_base ho0) hb); have n4_ := a0_ (Kd.R_lower (Kd.R_new' (Kd.R_new' (Kd.R_new' (Kd.R_newM (M := fun k_ => (w.heap.size ≤ k_)) ho0 (below_size (by repeat (first | (with_reducible first | exact HB.out | apply b1_ | apply b2_ | apply b3_) | exact HB.out))) (fun k_ h_ => h_)) (Kd.R_lt (by (with_reducible repeat (first | apply r1_ | apply r2_ | apply r3_)); exact HO_4.out))) (Kd.R_lt (by (with_reducible repeat (first | apply r1_ | apply r2_ | apply r3_)); exact HO245.out))) (Kd.R_lt (by (with_reducible repeat (first | apply r1_ | apply r2_ | apply r3_)); exact HO249.out))) (below_size (by repeat (first | (with_reducible first | exact HB.out | apply b1_ | apply b2_ | apply b3_) | exact HB.out)))); have n5_ := a0_ (below_step (by repeat (first | (with_reducible first | exact HB.out | apply b1_ | apply b2_ | apply b3_) | exact HB.out)) hb); clear HO_4; clear HO_5; clear HO245; clear HO249; clear HB; have HO_4 := n0_; have HO_5 := n1_; have HO245 := n2_; have HO249 := n3_; have HO252 := n4_; have HB := n5_; clear n0_ n1_ n2_ n3_ n4_ n5_; (try clear hb); (try clear hb2); (try clear hk); (try clear hi); (try clear ho0)))
           go_meet
           case rel => exact ⟨_, (t250), H', ⟨by have := HK1.out; first | omega | exact Nat.le_refl _⟩, ⟨by (with_reducible repeat (first | apply r1_ | apply r2_ | apply r3_)); exact Kd.R_mono HO_4.out (fun _ hk => ⟨hk.1.1.1, hk.2⟩)⟩, ⟨by (with_reducible repeat (first | apply r1_ | apply r2_ | apply r3_)); exact Kd.R_mono HO252.out (fun _ hk => ⟨hk.1.1.1.1, hk.1.1.2⟩)⟩, ⟨by repeat (first | (with_reducible first | exact HB.out | apply b1_ | apply b2_ | apply b3_) | exact HB.out)⟩⟩
          ·
           rw [if_neg c18] at H
           have c18b0 : ((Go.bits .and .u32 (ji14) 1) == 1) = false := beq_eq_false_iff_ne.mpr c18
           have c18b1 : ((Go.bits .and .u32 (ji14) 1) != 1) = true := bne_iff_ne.mpr c18
           (first | rw [c18b0] | (simp only [i64_w, i32_w]; rw [c18b0]) | skip)
           have H' := a0_ H
           clear H
           go_wp2
           go_meet
           case rel => exact ⟨_, (t243), H', ⟨by have := HK1.out; first | omega | exact Nat.le_refl _⟩, ⟨by (with_reducible repeat (first | apply r1_ | apply r2_ | apply r3_)); exact HO_4.out⟩, ⟨by (with_reducible repeat (first | apply r1_ | apply r2_ | apply r3_)); exact Kd.R_mono HO245.out (fun _ hk => ⟨hk.1.1, hk.2⟩)⟩, ⟨by repeat (first | (with_reducible first | exact HB.out | apply b1_ | apply b2_ | apply b3_) | exact HB.out)⟩⟩
         case rest =>
          clear HC15
          try clear c1
          try clear c2
          try clear p2
          try clear q2
          try clear hx2
          try clear c3
          try clear c3b0
          try clear c3b1
          try clear c4
          try clear c4b0
          try clear c4b1
          try clear p6
          try clear c7
          try clear c7b0
          try clear c10
          try clear c10b0
          try clear c11
          try clear c11b0
          try clear c13
          try clear c13b0
          try clear c13b1
          try clear c18
          try clear c18b0
          try clear c18b1
          try clear p24
          try clear q24
          try clear hx24
          try clear hx246_0
          try clear p2
          try clear p246
          try clear p6
          try clear q246
          obtain ⟨kq, x5_14, HA, HJ14, HO_4, HO_5, HB⟩ := hcut
          cases kq with
          | zero => exact absurd HA.out (by simp [spec_magDiv.j1])
          | succ kj14 =>
           have H := HA.out
           clear HA
           simp only [spec_magDiv.j1] at H
           replace H := Option.bind_eq_some_iff.mp H
           obtain ⟨t253, A250, H⟩ := H
           replace H : ((spec_magCmp.f kj14 t253 l1).bind fun t256 => (if t256 ≥ 0 then ((spec_magSub.f kj14 t253 l1).bind fun t257 => (if 0 ≤ (wrap64 (Int.tdiv x6_1 32)) then (if (wrap64 (Int.tdiv x6_1 32)) < (x4_1.length : Int) then (if 0 ≤ (Int.tmod x6_1 32) then (spec_magDiv.l0 kj14 l0 l1 (x4_1.set ((wrap64 (Int.tdiv x6_1 32)) : Int).toNat (Go.bits .or .u32 (rd x4_1 (wrap64 (Int.tdiv x6_1 32))) (shl .u32 1 (Int.tmod x6_1 32)))) t257 (wrap64 (x6_1 - 1))) else (none)) else (none)) else (none))) else (spec_magDiv.l0 kj14 l0 l1 x4_1 t253 (wrap64 (x6_1 - 1))))) = some (r1, r2) := H
           have A25 := a0_ A250
           clear A250
           replace H := Option.bind_eq_some_iff.mp H
           obtain ⟨t256, A260, H⟩ := H
           replace H : (if t256 ≥ 0 then ((spec_magSub.f kj14 t253 l1).bind fun t257 => (if 0 ≤ (wrap64 (Int.tdiv x6_1 32)) then (if (wrap64 (Int.tdiv x6_1 32)) < (x4_1.length : Int) then (if 0 ≤ (Int.tmod x6_1 32) then (spec_magDiv.l0 kj14 l0 l1 (x4_1.set ((wrap64 (Int.tdiv x6_1 32)) : Int).toNat (Go.bits .or .u32 (rd x4_1 (wrap64 (Int.tdiv x6_1 32))) (shl .u32 1 (Int.tmod x6_1 32)))) t257 (wrap64 (x6_1 - 1))) else (none)) else (none)) else (none))) else (spec_magDiv.l0 kj14 l0 l1 x4_1 t253 (wrap64 (x6_1 - 1)))) = some (r1, r2) := H
           have A26 := a0_ A260
           clear A260
           by_cases c27 : t256 ≥ 0
           ·
            rw [if_pos c27] at H
            have c27b0 : decide (0 ≤ t256) = true := d2_ c27
            clear c27
            replace H := Option.bind_eq_some_iff.mp H
            obtain ⟨t257, A280, H⟩ := H
            replace H : (if 0 ≤ (wrap64 (Int.tdiv x6_1 32)) then (if (wrap64 (Int.tdiv x6_1 32)) < (x4_1.length : Int) then (if 0 ≤ (Int.tmod x6_1 32) then (spec_magDiv.l0 kj14 l0 l1 (x4_1.set ((wrap64 (Int.tdiv x6_1 32)) : Int).toNat (Go.bits .or .u32 (rd x4_1 (wrap64 (Int.tdiv x6_1 32))) (shl .u32 1 (Int.tmod x6_1 32)))) t257 (wrap64 (x6_1 - 1))) else (none)) else (none)) else (none)) = some (r1, r2) := H
            have A28 := a0_ A280
            clear A280
            replace H : (if 0 ≤ (ji9) then (if (ji9) < (x4_1.length : Int) then (if 0 ≤ (Int.tmod x6_1 32) then (spec_magDiv.l0 kj14 l0 l1 (x4_1.set ((ji9) : Int).toNat (Go.bits .or .u32 (rd x4_1 (ji9)) (shl .u32 1 (Int.tmod x6_1 32)))) t257 (wrap64 (x6_1 - 1))) else (none)) else (none)) else (none)) = some (r1, r2) := by first | (rw [hji9] at H; exact H) | (simp only [hji9] at H ⊢; exact H)
            (try rw [hji9] at A25)
            (try rw [hji9] at A26)
            (try rw [hji9] at A28)
            have hji9w : (IntKind.i64.wrap (Int.tdiv x6_1 32)) = ji9 := (i64_w _).trans hji9
            by_cases c30 : 0 ≤ (ji9)
            ·
             rw [if_pos c30] at H
             have c30b0 : decide (0 ≤ (ji9)) = true := d2_ c30
             clear c30
             by_cases c31 : (ji9) < (x4_1.length : Int)
             ·
              rw [if_pos c31] at H
              have c31b0 : decide ((ji9) < (x4_1.length : Int)) = true := d2_ c31
              clear c31
              replace H : (if 0 ≤ (ji12) then (spec_magDiv.l0 kj14 l0 l1 (x4_1.set ((ji9) : Int).toNat (Go.bits .or .u32 (rd x4_1 (ji9)) (shl .u32 1 (ji12)))) t257 (wrap64 (x6_1 - 1))) else (none)) = some (r1, r2) := by first | (rw [hji12] at H; exact H) | (simp only [hji12] at H ⊢; exact H)
              (try rw [hji12] at A25)
              (try rw [hji12] at A26)
              (try rw [hji12] at A28)
              by_cases c33 : 0 ≤ (ji12)
              ·
               rw [if_pos c33] at H
               have c33b0 := eq_true c33
               have c33b1 : decide (0 ≤ (ji12)) = true := d2_ c33
               clear c33
               obtain ⟨ji34, hji34⟩ : ∃ j_ : Int, (shl .u32 1 (ji12)) = j_ := ⟨_, rfl⟩
               replace H : (spec_magDiv.l0 kj14 l0 l1 (x4_1.set ((ji9) : Int).toNat (Go.bits .or .u32 (rd x4_1 (ji9)) (ji34))) t257 (wrap64 (x6_1 - 1))) = some (r1, r2) := by first | (rw [hji34] at H; exact H) | (simp only [hji34] at H ⊢; exact H)
               (try rw [hji34] at A25)
               (try rw [hji34] at A26)
               (try rw [hji34] at A28)
               have hji34_ : (IntKind.u32.wrap (1 * 2 ^ min (ji12).toNat 32)) = ji34 := hji34
               have hji34z : (ji12) ≤ 32 → (IntKind.u32.wrap (1 * 2 ^ (ji12).toNat)) = ji34 := shl_small hji34
               have hji34u : (IntKind.u32.wrap (2 ^ min (ji12).toNat 32)) = ji34 := by have h_ := hji34_; rw [Int.one_mul] at h_; exact h_
               have hji34v : (ji12) ≤ 32 → (IntKind.u32.wrap (2 ^ (ji12).toNat)) = ji34 := fun hle_ => by have h_ := hji34z hle_; rw [Int.one_mul] at h_; exact h_
               obtain ⟨y261, hy261⟩ : ∃ y_ : List Int, y_ = (x4_1.set ((ji9) : Int).toNat (Go.bits .or .u32 (rd x4_1 (ji9)) (ji34))) := ⟨_, rfl⟩
               replace H : (spec_magDiv.l0 kj14 l0 l1 y261 t257 (wrap64 (x6_1 - 1))) = some (r1, r2) := by first | (rw [hy261]; with_reducible exact H) | (have H2_ := (o2_ _ _).symm.trans H; rw [hy261]; with_reducible exact H2_) | (have H2_ := (o2_ _ _).symm.trans H; with_reducible exact H2_) | with_reducible exact H | (rw [hy261]; exact H) | exact H
               have Ny261 := a0_ hy261
               clear hy261
               have H' := a0_ H
               clear H
               obtain ⟨Ao36, co36, eo36⟩ := Kd.R_slice HO_5.out
               subst eo36
               try go_wp2_with (first | ((with_reducible refine gate_callee (f := 73) rfl ?_); refine goesL_ (some 35) rfl rfl Try.func73 (by kernel_rfl) rfl #[.slice Ao36 x5_14.length co36] rfl (by (try simp only [List.map_toArray, List.map_cons, List.map_nil]); first | done | rfl | (simp only [List.length_drop, List.length_take]; rfl)) ?_; (with_reducible refine (spec_trim.calls kj14 (fun k_ => some k_ = (.slice Ao36 x5_14.length co36 : Value).ownBlock) _ _ x5_14 t253 _ ?side1 A25.out).mono ?_); (case side1 => exact Kd.R_V (Kd.R_tight rfl (HO_5.out))); rintro e w37 ⟨v254, rfl, ho0, hb⟩; refine ⟨_, rfl, ?_⟩; have n0_ := a0_ (Kd.R_below (by (with_reducible repeat (first | apply r1_ | apply r2_ | apply r3_)); exact HO_4.out) hb); have n1_ := a0_ (Kd.R_below (by (with_reducible repeat (first | apply r1_ | apply r2_ | apply r3_)); exact HO_5.out) hb); have n2_ := a0_ (Kd.V_lower (v4_ (ok' := fun k_ => (w.heap.size ≤ k_) ∧ some k_ ≠ (v238 : Value).ownBlock) ho0 (fun k_ hk_ => ⟨Or.elim hk_ (fun hs_ => ((HO_5.out).1 k_ hs_.symm).1) (fun hn_ => (Nat.le_trans (below_size (by repeat (first | (with_reducible first | exact HB.out | apply b1_ | apply b2_ | apply b3_) | exact HB.out))) hn_)), Or.elim hk_ (fun hs_ => ((HO_5.out).1 k_ hs_.symm).2) (fun hn_ => (Kd.fresh' (Kd.R_lt (by (with_reducible repeat (first | apply r1_ | apply r2_ | apply r3_)); exact HO_4.out)) k_ hn_))⟩)) (below_size (by repeat (first | (with_reducible first | exact HB.out | apply b1_ | apply b2_ | apply b3_) | exact HB.out)))); have n3_ := a0_ (below_step (by repeat (first | (with_reducible first | exact HB.out | apply b1_ | apply b2_ | apply b3_) | exact HB.out)) hb); clear HO_4; clear HO_5; clear HB; have HO_4 := n0_; have HO_5 := n1_; have HO255 := n2_; have HB := n3_; clear n0_ n1_ n2_ n3_; (try clear hb); (try clear hb2); (try clear hk); (try clear hi); (try clear ho0); obtain ⟨Ao38, co38, eo38⟩ := Kd.V_slice HO255.out; subst eo38) | ((with_reducible refine gate_callee (f := 39) rfl ?_); refine goesL_ (some 38) rfl rfl Try.func39 (by kernel_rfl) rfl #[.slice Ao38 t253.length co38, .slice A1 l1.length c1] rfl (by (try simp only [List.map_toArray, List.map_cons, List.map_nil]); first | done | rfl | (simp only [List.length_drop, List.length_take]; rfl)) ?_; (with_reducible refine (spec_magCmp.calls kj14 _ _ t253 _ _ l1 t256 _ ?side1 ?side2 ?side3 ?side4 A26.out).mono ?_); (case side1 => repeat (first | exact (Kd.V_reads' HO255.out).2.2 | (with_reducible refine Kd.C_alloc ?_ _) | (with_reducible refine Kd.C_drewN ?_ _) | (with_reducible refine Kd.C_drew ?_))); (case side2 => exact (Kd.V_reads' HO255.out).2.1); (case side3 => repeat (first | exact (Kd.C_below HR1.out HB.out) | (with_reducible refine Kd.C_alloc ?_ _) | (with_reducible refine Kd.C_drewN ?_ _) | (with_reducible refine Kd.C_drew ?_))); (case side4 => exact HC1.out); rintro e w' ⟨rfl, ⟨nd, rfl⟩⟩; refine ⟨_, rfl, ?_⟩; (try (rw [drewN_self w37]; generalize hq_ : World.drewN w37 _ = w37; have n0_ : Aside0 (Kd.V (Kd.int .u32) 96 w37 w.heap.size (fun k_ => (w.heap.size ≤ k_) ∧ some k_ ≠ (v238 : Value).ownBlock) (.slice Ao38 t253.length co38) t253) := ⟨by rw [← hq_]; exact (by (with_reducible repeat (first | apply v1_ | apply v2_ | apply v3_)); exact HO255.out)⟩; have n1_ : Aside0 (Kd.R (Kd.int .u32) 96 w37 w.heap.size (fun k_ => (w.heap.size ≤ k_) ∧ some k_ ≠ (.slice Ao36 x5_14.length co36 : Value).ownBlock) v238 x4_1) := ⟨by rw [← hq_]; exact (by (with_reducible repeat (first | apply r1_ | apply r2_ | apply r3_)); exact HO_4.out)⟩; have n2_ : Aside0 (Kd.R (Kd.int .u32) 96 w37 w.heap.size (fun k_ => (w.heap.size ≤ k_) ∧ some k_ ≠ (v238 : Value).ownBlock) (.slice Ao36 x5_14.length co36) x5_14) := ⟨by rw [← hq_]; exact (by (with_reducible repeat (first | apply r1_ | apply r2_ | apply r3_)); exact HO_5.out)⟩; have n3_ : Aside0 (Below w.heap.size w w37) := ⟨by rw [← hq_]; exact (by repeat (first | (with_reducible first | exact HB.out | apply b1_ | apply b2_ | apply b3_) | exact HB.out))⟩; clear HO255 HO_4 HO_5 HB hq_; have HO255 := n0_; have HO_4 := n1_; have HO_5 := n2_; have HB := n3_; clear n0_ n1_ n2_ n3_))) | ((with_reducible refine gate_callee (f := 40) rfl ?_); refine goesL_ (some 42) rfl rfl Try.func40 (by kernel_rfl) rfl #[.slice Ao38 t253.length co38, .slice A1 l1.length c1] rfl (by (try simp only [List.map_toArray, List.map_cons, List.map_nil]); first | done | rfl | (simp only [List.length_drop, List.length_take]; rfl)) ?_; (with_reducible refine (spec_magSub.calls kj14 _ _ t253 _ _ l1 t257 _ ?side1 ?side2 ?side3 ?side4 A28.out).mono ?_); (case side1 => repeat (first | exact (Kd.V_reads' HO255.out).2.2 | (with_reducible refine Kd.C_alloc ?_ _) | (with_reducible refine Kd.C_drewN ?_ _) | (with_reducible refine Kd.C_drew ?_))); (case side2 => exact (Kd.V_reads' HO255.out).2.1); (case side3 => repeat (first | exact (Kd.C_below HR1.out HB.out) | (with_reducible refine Kd.C_alloc ?_ _) | (with_reducible refine Kd.C_drewN ?_ _) | (with_reducible refine Kd.C_drew ?_))); (case side4 => exact HC1.out); rintro e w39 ⟨v258, rfl, ho0, hb⟩; refine ⟨_, rfl, ?_⟩; have n0_ := a0_ (Kd.R_below (by (with_reducible repeat (first | apply r1_ | apply r2_ | apply r3_)); exact HO_4.out) hb); have n1_ := a0_ (Kd.R_below (by (with_reducible repeat (first | apply r1_ | apply r2_ | apply r3_)); exact HO_5.out) hb); have n2_ := a0_ (Kd.V_below (by (with_reducible repeat (first | apply v1_ | apply v2_ | apply v3_)); exact HO255.out) hb); have n3_ := a0_ (Kd.V_lower (v4_ (ok' := fun k_ => (w.heap.size ≤ k_) ∧ some k_ ≠ (v238 : Value).ownBlock ∧ some k_ ≠ (.slice Ao36 x5_14.length co36 : Value).ownBlock) ho0 (fun k_ hk_ => ⟨(Nat.le_trans (below_size (by repeat (first | (with_reducible first | exact HB.out | apply b1_ | apply b2_ | apply b3_) | exact HB.out))) hk_), (Kd.fresh' (Kd.R_lt (by (with_reducible repeat (first | apply r1_ | apply r2_ | apply r3_)); exact HO_4.out)) k_ hk_), (Kd.fresh' (Kd.R_lt (by (with_reducible repeat (first | apply r1_ | apply r2_ | apply r3_)); exact HO_5.out)) k_ hk_)⟩)) (below_size (by repeat (first | (with_reducible first | exact HB.out | apply b1_ | apply b2_ | apply b3_) | exact HB.out)))); have n4_ := a0_ (below_step (by repeat (first | (with_reducible first | exact HB.out | apply b1_ | apply b2_ | apply b3_) | exact HB.out)) hb); clear HO_4; clear HO_5; clear HO255; clear HB; have HO_4 := n0_; have HO_5 := n1_; have HO255 := n2_; have HO259 := n3_; have HB := n4_; clear n0_ n1_ n2_ n3_ n4_; (try clear hb); (try clear hb2); (try clear hk); (try clear hi); (try clear ho0)))
               have n0_ := a0_ (r3_ HO_4.out)
               have n1_ := a0_ (r3_ HO_5.out)
               have n2_ := a0_ (v3_ HO255.out)
               have n3_ := a0_ (v3_ HO259.out)
               have n4_ := a0_ (b3_ HB.out)
               clear HO_4
               clear HO_5
               clear HO255
               clear HO259
               clear HB
               have HO_4 := n0_
               have HO_5 := n1_
               have HO255 := n2_
               have HO259 := n3_
               have HB := n4_
               clear n0_ n1_ n2_ n3_ n4_
               obtain ⟨Ao41, co41, eo41⟩ := Kd.R_slice HO_4.out
               (first | subst eo41 | (injection eo41 with f1_ f2_ f3_; have f4_ := f1_.symm; have f5_ := f3_.symm; clear f1_ f2_ f3_; subst f4_; subst f5_))
               have p260 : 0 ≤ ((ji9) : Int) := d1_ (by first | (with_reducible assumption) | assumption)
               have q260 : (ji9) < (x4_1.length : Int) := d1_ (by first | (with_reducible assumption) | assumption)
               obtain ⟨ad260, e260, hx260_0⟩ := Kd.at_int (Kd.R_reads' HO_4.out).2.2 (ji9) p260 q260
               cases e260
               replace p260 := eq_true p260
               replace q260 := eq_true q260
               have p35 : 0 ≤ ((ji9) : Int) := d1_ (by first | (with_reducible assumption) | assumption)
               have q35 : ((ji9) : Int) < ((x4_1.length : Int) : Int) := d1_ (by first | (with_reducible assumption) | assumption)
               obtain ⟨go35, co35, eo35, gb35, gl35, cl35, HG35⟩ := Kd.R_form HO_4.out (by omega)
               (first | cases eo35 | (injection eo35 with ea_ en_ ec_; (first | subst ea_ | (injection ea_ with ea_; subst ea_)); subst ec_; clear en_))
               have GB35 := a0_ gb35
               have GG35 := a0_ HG35
               clear gb35 gl35 HG35
               (first | simp only [add_plain] at hx260_0 | skip)
               obtain ⟨hx35_0, hf35_0⟩ := Kd.R_celln 0 HO_4.out ((ji9) : Int) p35 q35
               replace p35 := eq_true p35
               replace q35 := eq_true q35
               have HP42 := Kd.R_putn HO_4.out ((ji9) : Int) (Go.bits .or .u32 (rd x4_1 (ji9)) (ji34))
               rw [← Ny261.out] at HP42
               have HQ42 := a0_ HP42
               clear HP42
               refine start_ (n := 11) (S := fun w' => w'.cell? ⟨go35, ((ji9)).toNat, none⟩ = some (.int .u32 (rd x4_1 (ji9)))) (ds := [10]) #[false, false, false, false, false, false, false, false, false, false, false] (by kernel_rfl) rfl rfl (hx260_0) (fun hHeld => ?_); refine with_tabW spec_magDiv.tab11 spec_magDiv.bits11 (fun HT_ HW_ => ?_)
               generalize w39.drew = w40 at HO_4 HO_5 HO255 HO259 HB GG35 HQ42 hf35_0 hx260_0 hx35_0 hHeld ⊢
               refine pure_ (i := 0) (N := some 43) (v := ?_) (a' := ?_) #[true, false, false, false, false, false, false, false, false, false, false] rfl rfl (any_of HT_.out (by kernel_rfl)) (fun _ _ _ h => h) (Or.inl ⟨by rfl, ?_⟩) ?_ ?_
               rotate_left
               ·
                intro w'
                go_simp
                with_reducible rfl
               rotate_left
               ·
                simp only [Act.put, s1_, s2_, s3_, i64_w, i32_w]
                rfl
               refine pure_ (i := 1) (N := some 44) (v := ?_) (a' := ?_) #[true, true, false, false, false, false, false, false, false, false, false] rfl rfl (any_of HT_.out (by kernel_rfl)) (fun _ _ _ h => h) (Or.inl ⟨by rfl, ?_⟩) ?_ ?_
               rotate_left
               ·
                intro w'
                go_simp
                with_reducible rfl
               rotate_left
               ·
                simp only [Act.put, s1_, s2_, s3_, i64_w, i32_w]
                rfl
               refine pure_ (i := 2) (N := some 45) (v := ?_) (a' := ?_) #[true, true, true, false, false, false, false, false, false, false, false] rfl rfl (any_of HT_.out (by kernel_rfl)) (fun _ _ _ h => h) (Or.inl ⟨by rfl, ?_⟩) ?_ ?_
               rotate_left
               ·
                intro w'
                go_simp
                with_reducible rfl
               rotate_left
               ·
                simp only [Act.put, s1_, s2_, s3_, i64_w, i32_w]
                rfl
               refine pure_ (i := 3) (N := some 46) (v := ?_) (a' := ?_) #[true, true, true, true, false, false, false, false, false, false, false] rfl rfl (any_of HT_.out (by kernel_rfl)) (fun _ _ _ h => h) (Or.inl ⟨by rfl, ?_⟩) ?_ ?_
               rotate_left
               ·
                intro w'
                go_simp
                with_reducible rfl
               rotate_left
               ·
                simp only [Act.put, s1_, s2_, s3_, i64_w, i32_w]
                rfl
               refine pure_ (i := 5) (N := some 48) (v := ?_) (a' := ?_) #[true, true, true, true, false, true, false, false, false, false, false] rfl rfl (any_of HT_.out (by kernel_rfl)) (fun _ _ _ h => h) (Or.inl ⟨by rfl, ?_⟩) ?_ ?_
               rotate_left
               ·
                intro w'
                go_simp
                with_reducible rfl
               rotate_left
               ·
                simp only [Act.put, s1_, s2_, s3_, i64_w, i32_w]
                rfl
               refine pure_ (i := 6) (N := some 49) (v := ?_) (a' := ?_) #[true, true, true, true, false, true, true, false, false, false, false] rfl rfl (any_of HT_.out (by kernel_rfl)) (fun _ _ _ h => h) (Or.inl ⟨by rfl, ?_⟩) ?_ ?_
               rotate_left
               ·
                intro w'
                go_simp
                with_reducible rfl
               rotate_left
               ·
                simp only [Act.put, s1_, s2_, s3_, i64_w, i32_w]
                rfl
               refine pure_ (i := 7) (N := some 50) (v := ?_) (a' := ?_) #[true, true, true, true, false, true, true, true, false, false, false] rfl rfl (any_of HT_.out (by kernel_rfl)) (fun _ _ _ h => h) (Or.inl ⟨by rfl, ?_⟩) ?_ ?_
               rotate_left
               ·
                intro w'
                go_simp
                with_reducible rfl
               rotate_left
               ·
                simp only [Act.put, s1_, s2_, s3_, i64_w, i32_w]
                rfl
               refine take_ (i := 4) (N := some 47) (v := ?_) (a' := ?_) #[true, true, true, true, true, true, true, true, false, false, false] rfl rfl (take_ofW HT_.out HW_.out (by kernel_rfl)) (fun _ _ _ h => h) (Or.inl ⟨by rfl, ?_⟩) hHeld ?_ ?_
               rotate_left
               ·
                intro w' s0
                go_simp
                with_reducible rfl
               rotate_left
               ·
                simp only [Act.put, s1_, s2_, s3_, i64_w, i32_w]
                rfl
               refine pure_ (i := 8) (N := some 51) (v := ?_) (a' := ?_) #[true, true, true, true, true, true, true, true, true, false, false] rfl rfl (any_of HT_.out (by kernel_rfl)) (fun _ _ _ h => h) (Or.inl ⟨by rfl, ?_⟩) ?_ ?_
               rotate_left
               ·
                intro w'
                go_simp
                with_reducible rfl
               rotate_left
               ·
                simp only [Act.put, s1_, s2_, s3_, i64_w, i32_w]
                rfl
               refine pure_ (i := 9) (N := some 52) (v := ?_) (a' := ?_) #[true, true, true, true, true, true, true, true, true, true, false] rfl rfl (any_of HT_.out (by kernel_rfl)) (fun _ _ _ h => h) (Or.inl ⟨by rfl, ?_⟩) ?_ ?_
               rotate_left
               ·
                intro w'
                go_simp
                with_reducible rfl
               rotate_left
               ·
                simp only [Act.put, s1_, s2_, s3_, i64_w, i32_w]
                rfl
               refine last_ (i := 10) (N := none) #[true, true, true, true, true, true, true, true, true, true, true] rfl rfl (one_of HT_.out (by kernel_rfl)) (by decide) (fun K hK => ?_)
               refine skip_ (w1 := ?_) (by rfl) rfl ?_ ?_
               rotate_left
               ·
                go_simp
                rfl
               refine hK.out _ _ ?_
               clear hK K
               refine done_ (done_of HT_.out (by kernel_rfl)) ?_
               try go_wp2
               go_roundg kj14
               case measure => have := HK1.out; have := HJ14.out; omega
               case rel => exact ⟨(y261), (t257), (wrap64 (x6_1 - 1)), (by first | rfl | (simp; done) | (simp [*]; done)), H', ⟨by have := HK1.out; have := HJ14.out; omega⟩, ⟨by (with_reducible repeat (first | apply r1_ | apply r2_ | apply r3_)); exact Kd.R_mono HQ42.out (fun _ hk => hk.1)⟩, ⟨by (with_reducible repeat (first | apply v1_ | apply v2_ | apply v3_)); exact v4_ (v5_ (p := ⟨go35, ((ji9) : Int).toNat, none⟩) (v4_ HO259.out (fun k_ hk => (⟨hk, fun e_ => hk.2.1 (by rw [e_]; rfl)⟩ : _ ∧ k_ ≠ go35))) (fun _ hk => hk.2) (.int .u32 (Go.bits .or .u32 (rd x4_1 (ji9)) (ji34)))) (fun _ hk => ⟨hk.1.1, hk.1.2.1⟩)⟩, ⟨by repeat (first | (with_reducible first | exact HB.out | apply b1_ | apply b2_ | apply b3_ | refine b4_ ?_ GB35.out) | exact HB.out)⟩⟩
              ·
               rw [if_neg c33] at H
               exact absurd H (by simp)
             ·
              rw [if_neg c31] at H
              exact absurd H (by simp)
            ·
             rw [if_neg c30] at H
             exact absurd H (by simp)
           ·
            rw [if_neg c27] at H
            have c27b0 : decide (0 ≤ t256) = false := d3_ c27
            clear c27
            have H' := a0_ H
            clear H
            obtain ⟨Ao43, co43, eo43⟩ := Kd.R_slice HO_5.out
            subst eo43
            go_wp2_with (first | ((with_reducible refine gate_callee (f := 73) rfl ?_); refine goesL_ (some 35) rfl rfl Try.func73 (by kernel_rfl) rfl #[.slice Ao43 x5_14.length co43] rfl (by (try simp only [List.map_toArray, List.map_cons, List.map_nil]); first | done | rfl | (simp only [List.length_drop, List.length_take]; rfl)) ?_; (with_reducible refine (spec_trim.calls kj14 (fun k_ => some k_ = (.slice Ao43 x5_14.length co43 : Value).ownBlock) _ _ x5_14 t253 _ ?side1 A25.out).mono ?_); (case side1 => exact Kd.R_V (Kd.R_tight rfl (HO_5.out))); rintro e w44 ⟨v254, rfl, ho0, hb⟩; refine ⟨_, rfl, ?_⟩; have n0_ := a0_ (Kd.R_below (by (with_reducible repeat (first | apply r1_ | apply r2_ | apply r3_)); exact HO_4.out) hb); have n1_ := a0_ (Kd.R_below (by (with_reducible repeat (first | apply r1_ | apply r2_ | apply r3_)); exact HO_5.out) hb); have n2_ := a0_ (Kd.V_lower (v4_ (ok' := fun k_ => (w.heap.size ≤ k_) ∧ some k_ ≠ (v238 : Value).ownBlock) ho0 (fun k_ hk_ => ⟨Or.elim hk_ (fun hs_ => ((HO_5.out).1 k_ hs_.symm).1) (fun hn_ => (Nat.le_trans (below_size (by repeat (first | (with_reducible first | exact HB.out | apply b1_ | apply b2_ | apply b3_) | exact HB.out))) hn_)), Or.elim hk_ (fun hs_ => ((HO_5.out).1 k_ hs_.symm).2) (fun hn_ => (Kd.fresh' (Kd.R_lt (by (with_reducible repeat (first | apply r1_ | apply r2_ | apply r3_)); exact HO_4.out)) k_ hn_))⟩)) (below_size (by repeat (first | (with_reducible first | exact HB.out | apply b1_ | apply b2_ | apply b3_) | exact HB.out)))); have n3_ := a0_ (below_step (by repeat (first | (with_reducible first | exact HB.out | apply b1_ | apply b2_ | apply b3_) | exact HB.out)) hb); clear HO_4; clear HO_5; clear HB; have HO_4 := n0_; have HO_5 := n1_; have HO255 := n2_; have HB := n3_; clear n0_ n1_ n2_ n3_; (try clear hb); (try clear hb2); (try clear hk); (try clear hi); (try clear ho0); obtain ⟨Ao45, co45, eo45⟩ := Kd.V_slice HO255.out; subst eo45) | ((with_reducible refine gate_callee (f := 39) rfl ?_); refine goesL_ (some 38) rfl rfl Try.func39 (by kernel_rfl) rfl #[.slice Ao45 t253.length co45, .slice A1 l1.length c1] rfl (by (try simp only [List.map_toArray, List.map_cons, List.map_nil]); first | done | rfl | (simp only [List.length_drop, List.length_take]; rfl)) ?_; (with_reducible refine (spec_magCmp.calls kj14 _ _ t253 _ _ l1 t256 _ ?side1 ?side2 ?side3 ?side4 A26.out).mono ?_); (case side1 => repeat (first | exact (Kd.V_reads' HO255.out).2.2 | (with_reducible refine Kd.C_alloc ?_ _) | (with_reducible refine Kd.C_drewN ?_ _) | (with_reducible refine Kd.C_drew ?_))); (case side2 => exact (Kd.V_reads' HO255.out).2.1); (case side3 => repeat (first | exact (Kd.C_below HR1.out HB.out) | (with_reducible refine Kd.C_alloc ?_ _) | (with_reducible refine Kd.C_drewN ?_ _) | (with_reducible refine Kd.C_drew ?_))); (case side4 => exact HC1.out); rintro e w' ⟨rfl, ⟨nd, rfl⟩⟩; refine ⟨_, rfl, ?_⟩))
            go_roundg kj14
            case measure => have := HK1.out; have := HJ14.out; omega
            case rel => exact ⟨(x4_1), (t253), (wrap64 (x6_1 - 1)), (by first | rfl | (simp; done) | (simp [*]; done)), H', ⟨by have := HK1.out; have := HJ14.out; omega⟩, ⟨by (with_reducible repeat (first | apply r1_ | apply r2_ | apply r3_)); exact Kd.R_mono HO_4.out (fun _ hk => hk.1)⟩, ⟨by (with_reducible repeat (first | apply v1_ | apply v2_ | apply v3_)); exact HO255.out⟩, ⟨by repeat (first | (with_reducible first | exact HB.out | apply b1_ | apply b2_ | apply b3_) | exact HB.out)⟩⟩
        ·
         rw [if_neg c13] at H
         exact absurd H (by simp)
       ·
        rw [if_neg c11] at H
        exact absurd H (by simp)
      ·
       rw [if_neg c10] at H
       exact absurd H (by simp)
     ·
      rw [if_neg c7] at H
      have c7b0 : decide (0 ≤ x6_1) = false := d3_ c7
      clear c7
      replace H := Option.bind_eq_some_iff.mp H
      obtain ⟨t240, A460, H⟩ := H
      replace H : (some (t240, x5_1)) = some (r1, r2) := H
      have A46 := a0_ A460
      clear A460
      simp only [Option.some.injEq, Prod.mk.injEq] at H
      obtain ⟨rfl, rfl⟩ := H
      obtain ⟨Ao47, co47, eo47⟩ := Kd.R_slice HO_4.out
      subst eo47
      go_wp2_with (first | ((with_reducible refine gate_callee (f := 73) rfl ?_); refine goesL_ (some 54) rfl rfl Try.func73 (by kernel_rfl) rfl #[.slice Ao47 x4_1.length co47] rfl (by (try simp only [List.map_toArray, List.map_cons, List.map_nil]); first | done | rfl | (simp only [List.length_drop, List.length_take]; rfl)) ?_; (with_reducible refine (spec_trim.calls k1 (fun k_ => some k_ = (.slice Ao47 x4_1.length co47 : Value).ownBlock) _ _ x4_1 t240 _ ?side1 A46.out).mono ?_); (case side1 => exact Kd.R_V (Kd.R_tight rfl (HO_4.out))); rintro e w48 ⟨v241, rfl, ho0, hb⟩; refine ⟨_, rfl, ?_⟩; have n0_ := a0_ (Kd.R_below (by (with_reducible repeat (first | apply r1_ | apply r2_ | apply r3_)); exact HO_4.out) hb); have n1_ := a0_ (Kd.V_below (by (with_reducible repeat (first | apply v1_ | apply v2_ | apply v3_)); exact HO_5.out) hb); have n2_ := a0_ (Kd.V_lower (v4_ (ok' := fun k_ => (w.heap.size ≤ k_)) ho0 (fun k_ hk_ => Or.elim hk_ (fun hs_ => ((HO_4.out).1 k_ hs_.symm)) (fun hn_ => (Nat.le_trans (below_size (by repeat (first | (with_reducible first | exact HB.out | apply b1_ | apply b2_ | apply b3_) | exact HB.out))) hn_)))) (below_size (by repeat (first | (with_reducible first | exact HB.out | apply b1_ | apply b2_ | apply b3_) | exact HB.out)))); have n3_ := a0_ (below_step (by repeat (first | (with_reducible first | exact HB.out | apply b1_ | apply b2_ | apply b3_) | exact HB.out)) hb); clear HO_4; clear HO_5; clear HB; have HO_4 := n0_; have HO_5 := n1_; have HO242 := n2_; have HB := n3_; clear n0_ n1_ n2_ n3_; (try clear hb); (try clear hb2); (try clear hk); (try clear hi); (try clear ho0)))
      go_ret2
      exact ⟨_, _, by first | rfl | (simp [e1_, e2_] <;> rfl) | (simp [*, e1_, e2_] <;> rfl), by (with_reducible repeat (first | apply v1_ | apply v2_ | apply v3_)); exact HO242.out, by (with_reducible repeat (first | apply v1_ | apply v2_ | apply v3_)); exact v4_ HO_5.out (fun _ hk => hk.1), by repeat (first | (with_reducible first | exact HB.out | apply b1_ | apply b2_ | apply b3_) | exact HB.out)⟩
  ·
   rw [if_neg c4] at H
   exact absurd H (by simp)
 ·
  rw [if_neg c3] at H
  exact absurd H (by simp)

/-! ### spec_WideMul: function 36 -/
def spec_WideMul.f (k : Nat) (a0_0 : Bool) (l0_1 : List Int) (a1_0 : Bool) (l1_1 : List Int) : Option (Bool × List Int) := (spec_magMul.f k l0_1 l1_1).bind fun t367 => ((spec_wide.f k (a0_0 != a1_0) t367).bind fun bt370 => (some (bt370.1, bt370.2)))
def spec_WideMul.T1 : Bool × List (List Nat × List Nat) := (true, [([], []), ([0], [0]), ([], []), ([2], [2]), ([1, 3], [1, 3]), ([], []), ([5], [5]), ([], []), ([7], [7]), ([6, 8], [6, 8]), ([4, 9, 9], [4, 9]), ([10, 10, 0, 1, 2, 3, 4, 5, 6, 7, 8, 9, 10], [10])])
def spec_WideMul.B1 : List Nat := [0, 1, 0, 4, 15, 0, 32, 0, 128, 480, 1023, 2047]
theorem spec_WideMul.tab1 : rtab .any (opsOf Try.f36 1) = spec_WideMul.T1 := by kernel_rfl
theorem spec_WideMul.bits1 : waitsOk spec_WideMul.T1.2 spec_WideMul.B1 = true := by kernel_rfl
set_option maxHeartbeats 8000000 in
set_option maxRecDepth 100000 in
theorem spec_WideMul.calls (k : Nat) (a0_0 : Bool) (A0_1 : Option Addr) (c0_1 : Nat) (l0_1 : List Int) (a1_0 : Bool) (A1_1 : Option Addr) (c1_1 : Nat) (l1_1 : List Int) (r1 : Bool) (r2 : List Int) (w : World) (hr0_1 : Kd.C (Kd.int .u32) w A0_1 l0_1.length l0_1) (hc0_1 : l0_1.length ≤ c0_1) (hr1_1 : Kd.C (Kd.int .u32) w A1_1 l1_1.length l1_1) (hc1_1 : l1_1.length ≤ c1_1) (h : spec_WideMul.f k a0_0 l0_1 a1_0 l1_1 = some (r1, r2)) :
  Calls Try.prog 36 #[.agg #[.bool a0_0, .slice A0_1 l0_1.length c0_1], .agg #[.bool a1_0, .slice A1_1 l1_1.length c1_1]] w fun e w' => ∃ v1_ : Value, e = .returned (.agg #[.bool r1, v1_]) ∧ Kd.V (Kd.int .u32) 96 w' w.heap.size (fun k_ => (w.heap.size ≤ k_)) v1_ r2 ∧ Below w.heap.size w w' := by
 have hu29 := Try.underlying29
 have HR0_1 := a0_ hr0_1
 have HC0_1 := a0_ hc0_1
 clear hr0_1 hc0_1
 have HR1_1 := a0_ hr1_1
 have HC1_1 := a0_ hc1_1
 clear hr1_1 hc1_1
 have HB := a0_ (Below.refl w.heap.size w)
 have H : ((spec_magMul.f k l0_1 l1_1).bind fun t367 => ((spec_wide.f k (a0_0 != a1_0) t367).bind fun bt370 => (some (bt370.1, bt370.2)))) = some (r1, r2) := h
 clear h
 replace H := Option.bind_eq_some_iff.mp H
 obtain ⟨t367, A30, H⟩ := H
 replace H : ((spec_wide.f k (a0_0 != a1_0) t367).bind fun bt370 => (some (bt370.1, bt370.2))) = some (r1, r2) := H
 have A3 := a0_ A30
 clear A30
 replace H := Option.bind_eq_some_iff.mp H
 obtain ⟨⟨t370, t371⟩, A40, H⟩ := H
 replace H : (some (t370, t371)) = some (r1, r2) := H
 have A4 := a0_ A40
 clear A40
 simp only [Option.some.injEq, Prod.mk.injEq] at H
 obtain ⟨rfl, rfl⟩ := H
 go_enter Try.func36, Try.ntmps36
 try go_wp2_with (first | ((with_reducible refine gate_dst (N := 2) rfl ?_); refine box_event ?hg (N := 2) ?hd (cs := #[.bool a0_0, .slice A0_1 l0_1.length c0_1]) (t := 29) ?hr ?_; (case hd => rfl); (case hg => rfl); (case hr => first | (go_simp; done) | (go_simp; rfl)); intro gb364 hg w5 hbox hb; have n0_ := a0_ (below_step (by repeat (first | (with_reducible first | exact HB.out | apply b1_ | apply b2_ | apply b3_) | exact HB.out)) hb); have n1_ := a0_ (hbox); have n2_ := a0_ ((by rw [hg]; exact (below_size (by repeat (first | (with_reducible first | exact HB.out | apply b1_ | apply b2_ | apply b3_) | exact HB.out))) : w.heap.size ≤ gb364)); have n3_ := a0_ ((by rw [hg]; exact (below_size (by repeat (first | (with_reducible first | exact HB.out | apply b1_ | apply b2_ | apply b3_) | exact HB.out))) : w.heap.size ≤ gb364)); clear HB; have HB := n0_; have BK364 := n1_; have GW364 := n2_; have GE364 := n3_; clear n0_ n1_ n2_ n3_; clear hb hbox hg) | ((with_reducible refine gate_dst (N := 3) rfl ?_); refine box_event ?hg (N := 3) ?hd (cs := #[.bool a1_0, .slice A1_1 l1_1.length c1_1]) (t := 29) ?hr ?_; (case hd => rfl); (case hg => rfl); (case hr => first | (go_simp; done) | (go_simp; rfl)); intro gb365 hg w6 hbox hb; have n0_ := a0_ (blk_below (g := gb364) (o := .cells #[.bool a0_0, .slice A0_1 l0_1.length c0_1] 29 (0, 0)) (by (with_reducible repeat (first | refine k1_ ?_ _ | refine k2_ ?_ | refine k3_ ?_ _)); exact BK364.out) hb); have n1_ := a0_ (below_step (by repeat (first | (with_reducible first | exact HB.out | apply b1_ | apply b2_ | apply b3_ | refine b4_ ?_ GE364.out) | exact HB.out)) hb); have n2_ := a0_ (hbox); have n3_ := a0_ ((by rw [hg]; exact (below_size (by repeat (first | (with_reducible first | exact HB.out | apply b1_ | apply b2_ | apply b3_ | refine b4_ ?_ GE364.out) | exact HB.out))) : w.heap.size ≤ gb365)); have n4_ := a0_ ((by rw [hg]; exact (below_size (by repeat (first | (with_reducible first | exact HB.out | apply b1_ | apply b2_ | apply b3_ | refine b4_ ?_ GE364.out) | exact HB.out))) : w.heap.size ≤ gb365)); have n5_ := a0_ ((by rw [hg]; exact Nat.ne_of_lt (blk_lt (g := gb364) (o := .cells #[.bool a0_0, .slice A0_1 l0_1.length c0_1] 29 (0, 0)) (by (with_reducible repeat (first | refine k1_ ?_ _ | refine k2_ ?_ | refine k3_ ?_ _)); exact BK364.out)) : gb364 ≠ gb365)); have n6_ := a0_ ((by rw [hg]; exact Nat.ne_of_gt (blk_lt (g := gb364) (o := .cells #[.bool a0_0, .slice A0_1 l0_1.length c0_1] 29 (0, 0)) (by (with_reducible repeat (first | refine k1_ ?_ _ | refine k2_ ?_ | refine k3_ ?_ _)); exact BK364.out)) : gb365 ≠ gb364)); clear BK364; clear HB; have BK364 := n0_; have HB := n1_; have BK365 := n2_; have GW365 := n3_; have GE365 := n4_; have NB364_365 := n5_; have NB365_364 := n6_; clear n0_ n1_ n2_ n3_ n4_ n5_ n6_; clear hb hbox hg) | ((with_reducible refine gate_dst (N := 4) rfl ?_); refine box_event ?hg (N := 4) ?hd (cs := #[.bool false, .slice none 0 0]) (t := 29) ?hr ?_; (case hd => rfl); (case hg => rfl); (case hr => first | (go_simp; done) | (go_simp; rfl)); intro gb366 hg w7 hbox hb; have n0_ := a0_ (blk_below (g := gb364) (o := .cells #[.bool a0_0, .slice A0_1 l0_1.length c0_1] 29 (0, 0)) (by (with_reducible repeat (first | refine k1_ ?_ _ | refine k2_ ?_ | refine k3_ ?_ _)); exact BK364.out) hb); have n1_ := a0_ (blk_below (g := gb365) (o := .cells #[.bool a1_0, .slice A1_1 l1_1.length c1_1] 29 (0, 0)) (by (with_reducible repeat (first | refine k1_ ?_ _ | refine k2_ ?_ | refine k3_ ?_ _)); exact BK365.out) hb); have n2_ := a0_ (below_step (by repeat (first | (with_reducible first | exact HB.out | apply b1_ | apply b2_ | apply b3_ | refine b4_ ?_ GE364.out | refine b4_ ?_ GE365.out) | exact HB.out)) hb); have n3_ := a0_ (hbox); have n4_ := a0_ ((by rw [hg]; exact (below_size (by repeat (first | (with_reducible first | exact HB.out | apply b1_ | apply b2_ | apply b3_ | refine b4_ ?_ GE364.out | refine b4_ ?_ GE365.out) | exact HB.out))) : w.heap.size ≤ gb366)); have n5_ := a0_ ((by rw [hg]; exact (below_size (by repeat (first | (with_reducible first | exact HB.out | apply b1_ | apply b2_ | apply b3_ | refine b4_ ?_ GE364.out | refine b4_ ?_ GE365.out) | exact HB.out))) : w.heap.size ≤ gb366)); have n6_ := a0_ ((by rw [hg]; exact Nat.ne_of_lt (blk_lt (g := gb364) (o := .cells #[.bool a0_0, .slice A0_1 l0_1.length c0_1] 29 (0, 0)) (by (with_reducible repeat (first | refine k1_ ?_ _ | refine k2_ ?_ | refine k3_ ?_ _)); exact BK364.out)) : gb364 ≠ gb366)); have n7_ := a0_ ((by rw [hg]; exact Nat.ne_of_gt (blk_lt (g := gb364) (o := .cells #[.bool a0_0, .slice A0_1 l0_1.length c0_1] 29 (0, 0)) (by (with_reducible repeat (first | refine k1_ ?_ _ | refine k2_ ?_ | refine k3_ ?_ _)); exact BK364.out)) : gb366 ≠ gb364)); have n8_ := a0_ ((by rw [hg]; exact Nat.ne_of_lt (blk_lt (g := gb365) (o := .cells #[.bool a1_0, .slice A1_1 l1_1.length c1_1] 29 (0, 0)) (by (with_reducible repeat (first | refine k1_ ?_ _ | refine k2_ ?_ | refine k3_ ?_ _)); exact BK365.out)) : gb365 ≠ gb366)); have n9_ := a0_ ((by rw [hg]; exact Nat.ne_of_gt (blk_lt (g := gb365) (o := .cells #[.bool a1_0, .slice A1_1 l1_1.length c1_1] 29 (0, 0)) (by (with_reducible repeat (first | refine k1_ ?_ _ | refine k2_ ?_ | refine k3_ ?_ _)); exact BK365.out)) : gb366 ≠ gb365)); clear BK364; clear BK365; clear HB; have BK364 := n0_; have BK365 := n1_; have HB := n2_; have BK366 := n3_; have GW366 := n4_; have GE366 := n5_; have NB364_366 := n6_; have NB366_364 := n7_; have NB365_366 := n8_; have NB366_365 := n9_; clear n0_ n1_ n2_ n3_ n4_ n5_ n6_ n7_ n8_ n9_; clear hb hbox hg))
 have n0_ := a0_ (k2_ BK364.out)
 have n1_ := a0_ (k2_ BK365.out)
 have n2_ := a0_ (k2_ BK366.out)
 have n3_ := a0_ (b3_ HB.out)
 clear BK364
 clear BK365
 clear BK366
 clear HB
 have BK364 := n0_
 have BK365 := n1_
 have BK366 := n2_
 have HB := n3_
 clear n0_ n1_ n2_ n3_
 refine start_ (n := 12) (S := fun w' => w'.cell? ⟨gb364, 0, none⟩ = some (.bool a0_0) ∧ w'.cell? ⟨gb364, 1, none⟩ = some (.slice A0_1 l0_1.length c0_1) ∧ w'.cell? ⟨gb365, 0, none⟩ = some (.bool a1_0) ∧ w'.cell? ⟨gb365, 1, none⟩ = some (.slice A1_1 l1_1.length c1_1)) (ds := []) #[false, false, false, false, false, false, false, false, false, false, false, false] (by kernel_rfl) rfl rfl ⟨(blk_cell BK364.out 0).trans rfl, (blk_cell BK364.out 1).trans rfl, (blk_cell BK365.out 0).trans rfl, (blk_cell BK365.out 1).trans rfl⟩ (fun hHeld => ?_); refine with_tabW spec_WideMul.tab1 spec_WideMul.bits1 (fun HT_ HW_ => ?_)
 generalize w7.drew = w8 at BK364 BK365 BK366 HB hHeld ⊢
 refine pure_ (i := 0) (N := some 5) (v := ?_) (a' := ?_) #[true, false, false, false, false, false, false, false, false, false, false, false] rfl rfl (any_of HT_.out (by kernel_rfl)) (fun _ _ _ h => h) (Or.inl ⟨by rfl, ?_⟩) ?_ ?_
 rotate_left
 ·
  intro w'
  go_simp
  with_reducible rfl
 rotate_left
 ·
  simp only [Act.put, s1_, s2_, s3_, i64_w, i32_w]
  rfl
 refine pure_ (i := 2) (N := some 7) (v := ?_) (a' := ?_) #[true, false, true, false, false, false, false, false, false, false, false, false] rfl rfl (any_of HT_.out (by kernel_rfl)) (fun _ _ _ h => h) (Or.inl ⟨by rfl, ?_⟩) ?_ ?_
 rotate_left
 ·
  intro w'
  go_simp
  with_reducible rfl
 rotate_left
 ·
  simp only [Act.put, s1_, s2_, s3_, i64_w, i32_w]
  rfl
 refine pure_ (i := 5) (N := some 10) (v := ?_) (a' := ?_) #[true, false, true, false, false, true, false, false, false, false, false, false] rfl rfl (any_of HT_.out (by kernel_rfl)) (fun _ _ _ h => h) (Or.inl ⟨by rfl, ?_⟩) ?_ ?_
 rotate_left
 ·
  intro w'
  go_simp
  with_reducible rfl
 rotate_left
 ·
  simp only [Act.put, s1_, s2_, s3_, i64_w, i32_w]
  rfl
 refine pure_ (i := 7) (N := some 12) (v := ?_) (a' := ?_) #[true, false, true, false, false, true, false, true, false, false, false, false] rfl rfl (any_of HT_.out (by kernel_rfl)) (fun _ _ _ h => h) (Or.inl ⟨by rfl, ?_⟩) ?_ ?_
 rotate_left
 ·
  intro w'
  go_simp
  with_reducible rfl
 rotate_left
 ·
  simp only [Act.put, s1_, s2_, s3_, i64_w, i32_w]
  rfl
 refine take_ (i := 1) (N := some 6) (v := ?_) (a' := ?_) #[true, true, true, false, false, true, false, true, false, false, false, false] rfl rfl (take_ofW HT_.out HW_.out (by kernel_rfl)) (fun _ _ _ h => h) (Or.inl ⟨by rfl, ?_⟩) hHeld ?_ ?_
 rotate_left
 ·
  rintro w' ⟨s0, s1, s2, s3⟩
  go_simp
  with_reducible rfl
 rotate_left
 ·
  simp only [Act.put, s1_, s2_, s3_, i64_w, i32_w]
  rfl
 refine take_ (i := 3) (N := some 8) (v := ?_) (a' := ?_) #[true, true, true, true, false, true, false, true, false, false, false, false] rfl rfl (take_ofW HT_.out HW_.out (by kernel_rfl)) (fun _ _ _ h => h) (Or.inl ⟨by rfl, ?_⟩) hHeld ?_ ?_
 rotate_left
 ·
  rintro w' ⟨s0, s1, s2, s3⟩
  go_simp
  with_reducible rfl
 rotate_left
 ·
  simp only [Act.put, s1_, s2_, s3_, i64_w, i32_w]
  rfl
 refine pure_ (i := 4) (N := some 9) (v := ?_) (a' := ?_) #[true, true, true, true, true, true, false, true, false, false, false, false] rfl rfl (any_of HT_.out (by kernel_rfl)) (fun _ _ _ h => h) (Or.inl ⟨by rfl, ?_⟩) ?_ ?_
 rotate_left
 ·
  intro w'
  go_simp
  with_reducible rfl
 rotate_left
 ·
  simp only [Act.put, s1_, s2_, s3_, i64_w, i32_w]
  rfl
 refine take_ (i := 6) (N := some 11) (v := ?_) (a' := ?_) #[true, true, true, true, true, true, true, true, false, false, false, false] rfl rfl (take_ofW HT_.out HW_.out (by kernel_rfl)) (fun _ _ _ h => h) (Or.inl ⟨by rfl, ?_⟩) hHeld ?_ ?_
 rotate_left
 ·
  rintro w' ⟨s0, s1, s2, s3⟩
  go_simp
  with_reducible rfl
 rotate_left
 ·
  simp only [Act.put, s1_, s2_, s3_, i64_w, i32_w]
  rfl
 refine take_ (i := 8) (N := some 13) (v := ?_) (a' := ?_) #[true, true, true, true, true, true, true, true, true, false, false, false] rfl rfl (take_ofW HT_.out HW_.out (by kernel_rfl)) (fun _ _ _ h => h) (Or.inl ⟨by rfl, ?_⟩) hHeld ?_ ?_
 rotate_left
 ·
  rintro w' ⟨s0, s1, s2, s3⟩
  go_simp
  with_reducible rfl
 rotate_left
 ·
  simp only [Act.put, s1_, s2_, s3_, i64_w, i32_w]
  rfl
 refine one_ (i := 9) (N := some 14) #[true, true, true, true, true, true, true, true, true, true, false, false] rfl rfl (one_of HT_.out (by kernel_rfl)) (by decide) (fun K hK => ?_)
 refine goes_ Try.func76 (by kernel_rfl) rfl #[.slice A0_1 l0_1.length c0_1, .slice A1_1 l1_1.length c1_1] (by rfl) rfl rfl (by (try simp only [List.map_toArray, List.map_cons, List.map_nil]); first | done | rfl | (simp only [List.length_drop, List.length_take]; rfl)) ?_
 with_reducible refine (spec_magMul.calls k _ _ l0_1 _ _ l1_1 t367 _ ?side1 ?side2 ?side3 ?side4 A3.out).mono ?_
 (case side1 => repeat (first | exact (Kd.C_below HR0_1.out HB.out) | (with_reducible refine Kd.C_alloc ?_ _) | (with_reducible refine Kd.C_drewN ?_ _) | (with_reducible refine Kd.C_drew ?_)))
 (case side2 => exact HC0_1.out)
 (case side3 => repeat (first | exact (Kd.C_below HR1_1.out HB.out) | (with_reducible refine Kd.C_alloc ?_ _) | (with_reducible refine Kd.C_drewN ?_ _) | (with_reducible refine Kd.C_drew ?_)))
 (case side4 => exact HC1_1.out)
 rintro e w9 ⟨v368, rfl, ho0, hb⟩
 refine ⟨_, rfl, ?_⟩
 have n0_ := a0_ (Kd.V_lower (v4_ (ok' := fun k_ => (w.heap.size ≤ k_) ∧ k_ ≠ gb364 ∧ k_ ≠ gb365 ∧ k_ ≠ gb366) ho0 (fun k_ hk_ => ⟨(Nat.le_trans (below_size (by repeat (first | (with_reducible first | exact HB.out | apply b1_ | apply b2_ | apply b3_ | refine b4_ ?_ GE364.out | refine b4_ ?_ GE365.out | refine b4_ ?_ GE366.out) | exact HB.out))) hk_), (Kd.freshB (g := gb364) (o := .cells #[.bool a0_0, .slice A0_1 l0_1.length c0_1] 29 (0, 0)) (by (with_reducible repeat (first | refine k1_ ?_ _ | refine k2_ ?_ | refine k3_ ?_ _)); exact BK364.out) k_ hk_), (Kd.freshB (g := gb365) (o := .cells #[.bool a1_0, .slice A1_1 l1_1.length c1_1] 29 (0, 0)) (by (with_reducible repeat (first | refine k1_ ?_ _ | refine k2_ ?_ | refine k3_ ?_ _)); exact BK365.out) k_ hk_), (Kd.freshB (g := gb366) (o := .cells #[.bool false, .slice none 0 0] 29 (0, 0)) (by (with_reducible repeat (first | refine k1_ ?_ _ | refine k2_ ?_ | refine k3_ ?_ _)); exact BK366.out) k_ hk_)⟩)) (below_size (by repeat (first | (with_reducible first | exact HB.out | apply b1_ | apply b2_ | apply b3_ | refine b4_ ?_ GE364.out | refine b4_ ?_ GE365.out | refine b4_ ?_ GE366.out) | exact HB.out))))
 have n1_ := a0_ (blk_below (g := gb364) (o := .cells #[.bool a0_0, .slice A0_1 l0_1.length c0_1] 29 (0, 0)) (by (with_reducible repeat (first | refine k1_ ?_ _ | refine k2_ ?_ | refine k3_ ?_ _)); exact BK364.out) hb)
 have n2_ := a0_ (blk_below (g := gb365) (o := .cells #[.bool a1_0, .slice A1_1 l1_1.length c1_1] 29 (0, 0)) (by (with_reducible repeat (first | refine k1_ ?_ _ | refine k2_ ?_ | refine k3_ ?_ _)); exact BK365.out) hb)
 have n3_ := a0_ (blk_below (g := gb366) (o := .cells #[.bool false, .slice none 0 0] 29 (0, 0)) (by (with_reducible repeat (first | refine k1_ ?_ _ | refine k2_ ?_ | refine k3_ ?_ _)); exact BK366.out) hb)
 have n4_ := a0_ (below_step (by repeat (first | (with_reducible first | exact HB.out | apply b1_ | apply b2_ | apply b3_ | refine b4_ ?_ GE364.out | refine b4_ ?_ GE365.out | refine b4_ ?_ GE366.out) | exact HB.out)) hb)
 clear BK364
 clear BK365
 clear BK366
 clear HB
 have HO369 := n0_
 have BK364 := n1_
 have BK365 := n2_
 have BK366 := n3_
 have HB := n4_
 clear n0_ n1_ n2_ n3_ n4_
 (try clear hb)
 (try clear hb2)
 (try clear hk)
 (try clear hi)
 (try clear ho0)
 obtain ⟨Ao10, co10, eo10⟩ := Kd.V_slice HO369.out
 (first | subst eo10 | (injection eo10 with f1_ f2_ f3_; have f4_ := f1_.symm; have f5_ := f3_.symm; clear f1_ f2_ f3_; subst f4_; subst f5_))
 refine hK.out _ _ ⟨(blk_cell BK364.out 0).trans rfl, (blk_cell BK364.out 1).trans rfl, (blk_cell BK365.out 0).trans rfl, (blk_cell BK365.out 1).trans rfl⟩ (fun hHeld => ?_)
 clear hK K
 refine norm_ (a' := ?_) ?_ ?_
 rotate_left
 ·
  show Act.put _ (some 14) _ = _
  simp only [Act.put, s1_, s2_, s3_, i64_w, i32_w]
  rfl
 refine one_ (i := 10) (N := some 15) #[true, true, true, true, true, true, true, true, true, true, true, false] rfl rfl (one_of HT_.out (by kernel_rfl)) (by decide) (fun K hK => ?_)
 refine goes_ Try.func30 (by kernel_rfl) rfl #[.bool (a0_0 != a1_0), .slice Ao10 t367.length co10] (by rfl) rfl rfl (by (try simp only [List.map_toArray, List.map_cons, List.map_nil]); first | done | rfl | (simp only [List.length_drop, List.length_take]; rfl)) ?_
 with_reducible refine (spec_wide.calls k (a0_0 != a1_0) (fun k_ => ((w.heap.size ≤ k_) ∧ (k_ ≠ gb364 ∧ (k_ ≠ gb365 ∧ k_ ≠ gb366)))) _ _ t367 t370 t371 _ ?side1 A4.out).mono ?_
 (case side1 => exact HO369.out)
 rintro e w11 ⟨v372, rfl, ho0, hb⟩
 refine ⟨_, rfl, ?_⟩
 have n0_ := a0_ (Kd.V_below (by (with_reducible repeat (first | apply v1_ | apply v2_ | apply v3_)); exact HO369.out) hb)
 have n1_ := a0_ (Kd.V_lower (v4_ (ok' := fun k_ => (w.heap.size ≤ k_) ∧ k_ ≠ gb364 ∧ k_ ≠ gb365 ∧ k_ ≠ gb366) ho0 (fun k_ hk_ => ⟨Or.elim hk_ (fun hs_ => hs_.1) (fun hn_ => (Nat.le_trans (below_size (by repeat (first | (with_reducible first | exact HB.out | apply b1_ | apply b2_ | apply b3_ | refine b4_ ?_ GE364.out | refine b4_ ?_ GE365.out | refine b4_ ?_ GE366.out) | exact HB.out))) hn_)), Or.elim hk_ (fun hs_ => hs_.2.1) (fun hn_ => (Kd.freshB (g := gb364) (o := .cells #[.bool a0_0, .slice A0_1 l0_1.length c0_1] 29 (0, 0)) (by (with_reducible repeat (first | refine k1_ ?_ _ | refine k2_ ?_ | refine k3_ ?_ _)); exact BK364.out) k_ hn_)), Or.elim hk_ (fun hs_ => hs_.2.2.1) (fun hn_ => (Kd.freshB (g := gb365) (o := .cells #[.bool a1_0, .slice A1_1 l1_1.length c1_1] 29 (0, 0)) (by (with_reducible repeat (first | refine k1_ ?_ _ | refine k2_ ?_ | refine k3_ ?_ _)); exact BK365.out) k_ hn_)), Or.elim hk_ (fun hs_ => hs_.2.2.2) (fun hn_ => (Kd.freshB (g := gb366) (o := .cells #[.bool false, .slice none 0 0] 29 (0, 0)) (by (with_reducible repeat (first | refine k1_ ?_ _ | refine k2_ ?_ | refine k3_ ?_ _)); exact BK366.out) k_ hn_))⟩)) (below_size (by repeat (first | (with_reducible first | exact HB.out | apply b1_ | apply b2_ | apply b3_ | refine b4_ ?_ GE364.out | refine b4_ ?_ GE365.out | refine b4_ ?_ GE366.out) | exact HB.out))))
 have n2_ := a0_ (blk_below (g := gb364) (o := .cells #[.bool a0_0, .slice A0_1 l0_1.length c0_1] 29 (0, 0)) (by (with_reducible repeat (first | refine k1_ ?_ _ | refine k2_ ?_ | refine k3_ ?_ _)); exact BK364.out) hb)
 have n3_ := a0_ (blk_below (g := gb365) (o := .cells #[.bool a1_0, .slice A1_1 l1_1.length c1_1] 29 (0, 0)) (by (with_reducible repeat (first | refine k1_ ?_ _ | refine k2_ ?_ | refine k3_ ?_ _)); exact BK365.out) hb)
 have n4_ := a0_ (blk_below (g := gb366) (o := .cells #[.bool false, .slice none 0 0] 29 (0, 0)) (by (with_reducible repeat (first | refine k1_ ?_ _ | refine k2_ ?_ | refine k3_ ?_ _)); exact BK366.out) hb)
 have n5_ := a0_ (below_step (by repeat (first | (with_reducible first | exact HB.out | apply b1_ | apply b2_ | apply b3_ | refine b4_ ?_ GE364.out | refine b4_ ?_ GE365.out | refine b4_ ?_ GE366.out) | exact HB.out)) hb)
 clear HO369
 clear BK364
 clear BK365
 clear BK366
 clear HB
 have HO369 := n0_
 have HO373 := n1_
 have BK364 := n2_
 have BK365 := n3_
 have BK366 := n4_
 have HB := n5_
 clear n0_ n1_ n2_ n3_ n4_ n5_
 (try clear hb)
 (try clear hb2)
 (try clear hk)
 (try clear hi)
 (try clear ho0)
 obtain ⟨Ao13, co13, eo13⟩ := Kd.V_slice HO373.out
 (first | subst eo13 | (injection eo13 with f1_ f2_ f3_; have f4_ := f1_.symm; have f5_ := f3_.symm; clear f1_ f2_ f3_; subst f4_; subst f5_))
 refine hK.out _ _ ⟨(blk_cell BK364.out 0).trans rfl, (blk_cell BK364.out 1).trans rfl, (blk_cell BK365.out 0).trans rfl, (blk_cell BK365.out 1).trans rfl⟩ (fun hHeld => ?_)
 clear hK K
 refine norm_ (a' := ?_) ?_ ?_
 rotate_left
 ·
  show Act.put _ (some 15) _ = _
  simp only [Act.put, s1_, s2_, s3_, i64_w, i32_w]
  rfl
 refine one_ (i := 11) (N := none) #[true, true, true, true, true, true, true, true, true, true, true, true] rfl rfl (one_of HT_.out (by kernel_rfl)) (by decide) (fun K hK => ?_)
 have hs12 : w11.cell? ⟨gb366, 0, none⟩ = some (.bool false) := (blk_cell BK366.out 0).trans rfl
 have hfs12 := blk_frozen BK366.out 0
 have hns12_0 := NB364_366.out
 have hns12_1 := NB365_366.out
 have hms12_0 := NB366_364.out
 have hms12_1 := NB366_365.out
 have hs14 : w11.cell? ⟨gb366, 1, none⟩ = some (.slice none 0 0) := (blk_cell BK366.out 1).trans rfl
 have hfs14 := blk_frozen BK366.out 1
 have hns14_0 := NB364_366.out
 have hns14_1 := NB365_366.out
 have hms14_0 := NB366_364.out
 have hms14_1 := NB366_365.out
 refine skip_ (w1 := ?_) (by rfl) rfl ?_ ?_
 rotate_left
 ·
  go_simp
  rfl
 refine hK.out _ _ ⟨((cell_far (p := ⟨gb366, _, none⟩) NB364_366.out _).trans (((cell_far (p := ⟨gb366, _, none⟩) NB364_366.out _).trans (hHeld.1)))), ((cell_far (p := ⟨gb366, _, none⟩) NB364_366.out _).trans (((cell_far (p := ⟨gb366, _, none⟩) NB364_366.out _).trans (hHeld.2.1)))), ((cell_far (p := ⟨gb366, _, none⟩) NB365_366.out _).trans (((cell_far (p := ⟨gb366, _, none⟩) NB365_366.out _).trans (hHeld.2.2.1)))), ((cell_far (p := ⟨gb366, _, none⟩) NB365_366.out _).trans (((cell_far (p := ⟨gb366, _, none⟩) NB365_366.out _).trans (hHeld.2.2.2))))⟩ (fun hHeld => ?_)
 clear hK K
 refine done_ (done_of HT_.out (by kernel_rfl)) ?_
 try go_wp2
 refine bodyPost_ret (results_cell_row rfl _ _ gb366 29 #[.bool t370, .slice Ao13 t371.length co13] (0, 0) _ rfl (by (with_reducible repeat (first | refine k1_ ?_ _ | refine k2_ ?_ | refine k3_ ?_ _)); refine blk_put (cs := #[.bool t370, .slice none 0 0]) ?_ 1 _ rfl; (with_reducible repeat (first | refine k1_ ?_ _ | refine k2_ ?_ | refine k3_ ?_ _)); refine blk_put (cs := #[.bool false, .slice none 0 0]) ?_ 0 _ rfl; (with_reducible repeat (first | refine k1_ ?_ _ | refine k2_ ?_ | refine k3_ ?_ _)); exact BK366.out) Try.underlying29 rfl (by kernel_rfl)) rfl ?_
 exact ⟨_, by first | rfl | (simp [e1_, e2_] <;> rfl) | (simp [*, e1_, e2_] <;> rfl), by (with_reducible repeat (first | apply v1_ | apply v2_ | apply v3_)); exact v4_ (v5_ (p := ⟨gb366, 1, none⟩) (v5_ (p := ⟨gb366, 0, none⟩) (v4_ HO373.out (fun k_ hk => (⟨hk, hk.2.2.2⟩ : _ ∧ k_ ≠ gb366))) (fun _ hk => hk.2) (.bool t370)) (fun _ hk => hk.2) (.slice Ao13 t371.length co13)) (fun _ hk => hk.1.1), by repeat (first | (with_reducible first | exact HB.out | apply b1_ | apply b2_ | apply b3_ | refine b4_ ?_ GE364.out | refine b4_ ?_ GE365.out | refine b4_ ?_ GE366.out) | exact HB.out)⟩

/-! ### spec_WideDiv: function 11 -/
def spec_WideDiv.f (k : Nat) (a0_0 : Bool) (l0_1 : List Int) (a1_0 : Bool) (l1_1 : List Int) : Option (Bool × List Int × Bool × List Int) := (spec_magDiv.f k l0_1 l1_1).bind fun bt266 => ((spec_wide.f k (a0_0 != a1_0) bt266.1).bind fun bt272 => ((spec_wide.f k a0_0 bt266.2).bind fun bt276 => (some (bt272.1, bt272.2, bt276.1, bt276.2))))
def spec_WideDiv.T2 : Bool × List (List Nat × List Nat) := (true, [([], []), ([0], [0]), ([], []), ([2], [2]), ([1, 3], [1, 3]), ([], []), ([4, 5], [4, 5]), ([], []), ([7], [7]), ([], []), ([8, 9, 6], [8, 9]), ([6, 10, 0, 1, 2, 3, 4, 5, 6], [6]), ([10, 11, 0, 1, 2, 3, 4, 5, 6, 7, 8, 9, 10, 11], [10])])
def spec_WideDiv.B2 : List Nat := [0, 1, 0, 4, 15, 0, 63, 0, 128, 0, 1023, 2047, 4095]
theorem spec_WideDiv.tab2 : rtab .any (opsOf Try.f11 2) = spec_WideDiv.T2 := by kernel_rfl
theorem spec_WideDiv.bits2 : waitsOk spec_WideDiv.T2.2 spec_WideDiv.B2 = true := by kernel_rfl
set_option maxHeartbeats 8000000 in
set_option maxRecDepth 100000 in
theorem spec_WideDiv.calls (k : Nat) (a0_0 : Bool) (A0_1 : Option Addr) (c0_1 : Nat) (l0_1 : List Int) (a1_0 : Bool) (A1_1 : Option Addr) (c1_1 : Nat) (l1_1 : List Int) (r1 : Bool) (r2 : List Int) (r3 : Bool) (r4 : List Int) (w : World) (hr0_1 : Kd.C (Kd.int .u32) w A0_1 l0_1.length l0_1) (hc0_1 : l0_1.length ≤ c0_1) (hr1_1 : Kd.C (Kd.int .u32) w A1_1 l1_1.length l1_1) (hc1_1 : l1_1.length ≤ c1_1) (h : spec_WideDiv.f k a0_0 l0_1 a1_0 l1_1 = some (r1, r2, r3, r4)) :
  Calls Try.prog 11 #[.agg #[.bool a0_0, .slice A0_1 l0_1.length c0_1], .agg #[.bool a1_0, .slice A1_1 l1_1.length c1_1]] w fun e w' => ∃ v1_ v3_ : Value, e = .returned (.tuple #[.agg #[.bool r1, v1_], .agg #[.bool r3, v3_]]) ∧ Kd.V (Kd.int .u32) 96 w' w.heap.size (fun k_ => (w.heap.size ≤ k_)) v1_ r2 ∧ Kd.V (Kd.int .u32) 96 w' w.heap.size (fun k_ => (w.heap.size ≤ k_)) v3_ r4 ∧ Below w.heap.size w w' := by
 have hu29 := Try.underlying29
 have HR0_1 := a0_ hr0_1
 have HC0_1 := a0_ hc0_1
 clear hr0_1 hc0_1
 have HR1_1 := a0_ hr1_1
 have HC1_1 := a0_ hc1_1
 clear hr1_1 hc1_1
 have HB := a0_ (Below.refl w.heap.size w)
 have H : ((spec_magDiv.f k l0_1 l1_1).bind fun bt266 => ((spec_wide.f k (a0_0 != a1_0) bt266.1).bind fun bt272 => ((spec_wide.f k a0_0 bt266.2).bind fun bt276 => (some (bt272.1, bt272.2, bt276.1, bt276.2))))) = some (r1, r2, r3, r4) := h
 clear h
 replace H := Option.bind_eq_some_iff.mp H
 obtain ⟨⟨t266, t269⟩, A30, H⟩ := H
 replace H : ((spec_wide.f k (a0_0 != a1_0) t266).bind fun bt272 => ((spec_wide.f k a0_0 t269).bind fun bt276 => (some (bt272.1, bt272.2, bt276.1, bt276.2)))) = some (r1, r2, r3, r4) := H
 have A3 := a0_ A30
 clear A30
 replace H := Option.bind_eq_some_iff.mp H
 obtain ⟨⟨t272, t273⟩, A40, H⟩ := H
 replace H : ((spec_wide.f k a0_0 t269).bind fun bt276 => (some (t272, t273, bt276.1, bt276.2))) = some (r1, r2, r3, r4) := H
 have A4 := a0_ A40
 clear A40
 replace H := Option.bind_eq_some_iff.mp H
 obtain ⟨⟨t276, t277⟩, A50, H⟩ := H
 replace H : (some (t272, t273, t276, t277)) = some (r1, r2, r3, r4) := H
 have A5 := a0_ A50
 clear A50
 simp only [Option.some.injEq, Prod.mk.injEq] at H
 obtain ⟨rfl, rfl, rfl, rfl⟩ := H
 go_enter Try.func11, Try.ntmps11
 try go_wp2_with (first | ((with_reducible refine gate_dst (N := 2) rfl ?_); refine box_event ?hg (N := 2) ?hd (cs := #[.bool a0_0, .slice A0_1 l0_1.length c0_1]) (t := 29) ?hr ?_; (case hd => rfl); (case hg => rfl); (case hr => first | (go_simp; done) | (go_simp; rfl)); intro gb262 hg w6 hbox hb; have n0_ := a0_ (below_step (by repeat (first | (with_reducible first | exact HB.out | apply b1_ | apply b2_ | apply b3_) | exact HB.out)) hb); have n1_ := a0_ (hbox); have n2_ := a0_ ((by rw [hg]; exact (below_size (by repeat (first | (with_reducible first | exact HB.out | apply b1_ | apply b2_ | apply b3_) | exact HB.out))) : w.heap.size ≤ gb262)); have n3_ := a0_ ((by rw [hg]; exact (below_size (by repeat (first | (with_reducible first | exact HB.out | apply b1_ | apply b2_ | apply b3_) | exact HB.out))) : w.heap.size ≤ gb262)); clear HB; have HB := n0_; have BK262 := n1_; have GW262 := n2_; have GE262 := n3_; clear n0_ n1_ n2_ n3_; clear hb hbox hg) | ((with_reducible refine gate_dst (N := 3) rfl ?_); refine box_event ?hg (N := 3) ?hd (cs := #[.bool a1_0, .slice A1_1 l1_1.length c1_1]) (t := 29) ?hr ?_; (case hd => rfl); (case hg => rfl); (case hr => first | (go_simp; done) | (go_simp; rfl)); intro gb263 hg w7 hbox hb; have n0_ := a0_ (blk_below (g := gb262) (o := .cells #[.bool a0_0, .slice A0_1 l0_1.length c0_1] 29 (0, 0)) (by (with_reducible repeat (first | refine k1_ ?_ _ | refine k2_ ?_ | refine k3_ ?_ _)); exact BK262.out) hb); have n1_ := a0_ (below_step (by repeat (first | (with_reducible first | exact HB.out | apply b1_ | apply b2_ | apply b3_ | refine b4_ ?_ GE262.out) | exact HB.out)) hb); have n2_ := a0_ (hbox); have n3_ := a0_ ((by rw [hg]; exact (below_size (by repeat (first | (with_reducible first | exact HB.out | apply b1_ | apply b2_ | apply b3_ | refine b4_ ?_ GE262.out) | exact HB.out))) : w.heap.size ≤ gb263)); have n4_ := a0_ ((by rw [hg]; exact (below_size (by repeat (first | (with_reducible first | exact HB.out | apply b1_ | apply b2_ | apply b3_ | refine b4_ ?_ GE262.out) | exact HB.out))) : w.heap.size ≤ gb263)); have n5_ := a0_ ((by rw [hg]; exact Nat.ne_of_lt (blk_lt (g := gb262) (o := .cells #[.bool a0_0, .slice A0_1 l0_1.length c0_1] 29 (0, 0)) (by (with_reducible repeat (first | refine k1_ ?_ _ | refine k2_ ?_ | refine k3_ ?_ _)); exact BK262.out)) : gb262 ≠ gb263)); have n6_ := a0_ ((by rw [hg]; exact Nat.ne_of_gt (blk_lt (g := gb262) (o := .cells #[.bool a0_0, .slice A0_1 l0_1.length c0_1] 29 (0, 0)) (by (with_reducible repeat (first | refine k1_ ?_ _ | refine k2_ ?_ | refine k3_ ?_ _)); exact BK262.out)) : gb263 ≠ gb262)); clear BK262; clear HB; have BK262 := n0_; have HB := n1_; have BK263 := n2_; have GW263 := n3_; have GE263 := n4_; have NB262_263 := n5_; have NB263_262 := n6_; clear n0_ n1_ n2_ n3_ n4_ n5_ n6_; clear hb hbox hg) | ((with_reducible refine gate_dst (N := 4) rfl ?_); refine box_event ?hg (N := 4) ?hd (cs := #[.bool false, .slice none 0 0]) (t := 29) ?hr ?_; (case hd => rfl); (case hg => rfl); (case hr => first | (go_simp; done) | (go_simp; rfl)); intro gb264 hg w8 hbox hb; have n0_ := a0_ (blk_below (g := gb262) (o := .cells #[.bool a0_0, .slice A0_1 l0_1.length c0_1] 29 (0, 0)) (by (with_reducible repeat (first | refine k1_ ?_ _ | refine k2_ ?_ | refine k3_ ?_ _)); exact BK262.out) hb); have n1_ := a0_ (blk_below (g := gb263) (o := .cells #[.bool a1_0, .slice A1_1 l1_1.length c1_1] 29 (0, 0)) (by (with_reducible repeat (first | refine k1_ ?_ _ | refine k2_ ?_ | refine k3_ ?_ _)); exact BK263.out) hb); have n2_ := a0_ (below_step (by repeat (first | (with_reducible first | exact HB.out | apply b1_ | apply b2_ | apply b3_ | refine b4_ ?_ GE262.out | refine b4_ ?_ GE263.out) | exact HB.out)) hb); have n3_ := a0_ (hbox); have n4_ := a0_ ((by rw [hg]; exact (below_size (by repeat (first | (with_reducible first | exact HB.out | apply b1_ | apply b2_ | apply b3_ | refine b4_ ?_ GE262.out | refine b4_ ?_ GE263.out) | exact HB.out))) : w.heap.size ≤ gb264)); have n5_ := a0_ ((by rw [hg]; exact (below_size (by repeat (first | (with_reducible first | exact HB.out | apply b1_ | apply b2_ | apply b3_ | refine b4_ ?_ GE262.out | refine b4_ ?_ GE263.out) | exact HB.out))) : w.heap.size ≤ gb264)); have n6_ := a0_ ((by rw [hg]; exact Nat.ne_of_lt (blk_lt (g := gb262) (o := .cells #[.bool a0_0, .slice A0_1 l0_1.length c0_1] 29 (0, 0)) (by (with_reducible repeat (first | refine k1_ ?_ _ | refine k2_ ?_ | refine k3_ ?_ _)); exact BK262.out)) : gb262 ≠ gb264)); have n7_ := a0_ ((by rw [hg]; exact Nat.ne_of_gt (blk_lt (g := gb262) (o := .cells #[.bool a0_0, .slice A0_1 l0_1.length c0_1] 29 (0, 0)) (by (with_reducible repeat (first | refine k1_ ?_ _ | refine k2_ ?_ | refine k3_ ?_ _)); exact BK262.out)) : gb264 ≠ gb262)); have n8_ := a0_ ((by rw [hg]; exact Nat.ne_of_lt (blk_lt (g := gb263) (o := .cells #[.bool a1_0, .slice A1_1 l1_1.length c1_1] 29 (0, 0)) (by (with_reducible repeat (first | refine k1_ ?_ _ | refine k2_ ?_ | refine k3_ ?_ _)); exact BK263.out)) : gb263 ≠ gb264)); have n9_ := a0_ ((by rw [hg]; exact Nat.ne_of_gt (blk_lt (g := gb263) (o := .cells #[.bool a1_0, .slice A1_1 l1_1.length c1_1] 29 (0, 0)) (by (with_reducible repeat (first | refine k1_ ?_ _ | refine k2_ ?_ | refine k3_ ?_ _)); exact BK263.out)) : gb264 ≠ gb263)); clear BK262; clear BK263; clear HB; have BK262 := n0_; have BK263 := n1_; have HB := n2_; have BK264 := n3_; have GW264 := n4_; have GE264 := n5_; have NB262_264 := n6_; have NB264_262 := n7_; have NB263_264 := n8_; have NB264_263 := n9_; clear n0_ n1_ n2_ n3_ n4_ n5_ n6_ n7_ n8_ n9_; clear hb hbox hg) | ((with_reducible refine gate_dst (N := 5) rfl ?_); refine box_event ?hg (N := 5) ?hd (cs := #[.bool false, .slice none 0 0]) (t := 29) ?hr ?_; (case hd => rfl); (case hg => rfl); (case hr => first | (go_simp; done) | (go_simp; rfl)); intro gb265 hg w9 hbox hb; have n0_ := a0_ (blk_below (g := gb262) (o := .cells #[.bool a0_0, .slice A0_1 l0_1.length c0_1] 29 (0, 0)) (by (with_reducible repeat (first | refine k1_ ?_ _ | refine k2_ ?_ | refine k3_ ?_ _)); exact BK262.out) hb); have n1_ := a0_ (blk_below (g := gb263) (o := .cells #[.bool a1_0, .slice A1_1 l1_1.length c1_1] 29 (0, 0)) (by (with_reducible repeat (first | refine k1_ ?_ _ | refine k2_ ?_ | refine k3_ ?_ _)); exact BK263.out) hb); have n2_ := a0_ (blk_below (g := gb264) (o := .cells #[.bool false, .slice none 0 0] 29 (0, 0)) (by (with_reducible repeat (first | refine k1_ ?_ _ | refine k2_ ?_ | refine k3_ ?_ _)); exact BK264.out) hb); have n3_ := a0_ (below_step (by repeat (first | (with_reducible first | exact HB.out | apply b1_ | apply b2_ | apply b3_ | refine b4_ ?_ GE262.out | refine b4_ ?_ GE263.out | refine b4_ ?_ GE264.out) | exact HB.out)) hb); have n4_ := a0_ (hbox); have n5_ := a0_ ((by rw [hg]; exact (below_size (by repeat (first | (with_reducible first | exact HB.out | apply b1_ | apply b2_ | apply b3_ | refine b4_ ?_ GE262.out | refine b4_ ?_ GE263.out | refine b4_ ?_ GE264.out) | exact HB.out))) : w.heap.size ≤ gb265)); have n6_ := a0_ ((by rw [hg]; exact (below_size (by repeat (first | (with_reducible first | exact HB.out | apply b1_ | apply b2_ | apply b3_ | refine b4_ ?_ GE262.out | refine b4_ ?_ GE263.out | refine b4_ ?_ GE264.out) | exact HB.out))) : w.heap.size ≤ gb265)); have n7_ := a0_ ((by rw [hg]; exact Nat.ne_of_lt (blk_lt (g := gb262) (o := .cells #[.bool a0_0, .slice A0_1 l0_1.length c0_1] 29 (0, 0)) (by (with_reducible repeat (first | refine k1_ ?_ _ | refine k2_ ?_ | refine k3_ ?_ _)); exact BK262.out)) : gb262 ≠ gb265)); have n8_ := a0_ ((by rw [hg]; exact Nat.ne_of_gt (blk_lt (g := gb262) (o := .cells #[.bool a0_0, .slice A0_1 l0_1.length c0_1] 29 (0, 0)) (by (with_reducible repeat (first | refine k1_ ?_ _ | refine k2_ ?_ | refine k3_ ?_ _)); exact BK262.out)) : gb265 ≠ gb262)); have n9_ := a0_ ((by rw [hg]; exact Nat.ne_of_lt (blk_lt (g := gb263) (o := .cells #[.bool a1_0, .slice A1_1 l1_1.length c1_1] 29 (0, 0)) (by (with_reducible repeat (first | refine k1_ ?_ _ | refine k2_ ?_ | refine k3_ ?_ _)); exact BK263.out)) : gb263 ≠ gb265)); have n10_ := a0_ ((by rw [hg]; exact Nat.ne_of_gt (blk_lt (g := gb263) (o := .cells #[.bool a1_0, .slice A1_1 l1_1.length c1_1] 29 (0, 0)) (by (with_reducible repeat (first | refine k1_ ?_ _ | refine k2_ ?_ | refine k3_ ?_ _)); exact BK263.out)) : gb265 ≠ gb263)); have n11_ := a0_ ((by rw [hg]; exact Nat.ne_of_lt (blk_lt (g := gb264) (o := .cells #[.bool false, .slice none 0 0] 29 (0, 0)) (by (with_reducible repeat (first | refine k1_ ?_ _ | refine k2_ ?_ | refine k3_ ?_ _)); exact BK264.out)) : gb264 ≠ gb265)); have n12_ := a0_ ((by rw [hg]; exact Nat.ne_of_gt (blk_lt (g := gb264) (o := .cells #[.bool false, .slice none 0 0] 29 (0, 0)) (by (with_reducible repeat (first | refine k1_ ?_ _ | refine k2_ ?_ | refine k3_ ?_ _)); exact BK264.out)) : gb265 ≠ gb264)); clear BK262; clear BK263; clear BK264; clear HB; have BK262 := n0_; have BK263 := n1_; have BK264 := n2_; have HB := n3_; have BK265 := n4_; have GW265 := n5_; have GE265 := n6_; have NB262_265 := n7_; have NB265_262 := n8_; have NB263_265 := n9_; have NB265_263 := n10_; have NB264_265 := n11_; have NB265_264 := n12_; clear n0_ n1_ n2_ n3_ n4_ n5_ n6_ n7_ n8_ n9_ n10_ n11_ n12_; clear hb hbox hg; have hnb10 := NB262_263.out; have hnc10 := NB263_262.out; have hnb11 := NB262_264.out; have hnc11 := NB264_262.out; have hnb12 := NB262_265.out; have hnc12 := NB265_262.out; have hcz13_0 : w9.cell? ⟨gb262, 0, none⟩ = some (.bool a0_0) := (blk_cell BK262.out 0).trans rfl; have hcz13_1 : w9.cell? ⟨gb262, 1, none⟩ = some (.slice A0_1 l0_1.length c0_1) := (blk_cell BK262.out 1).trans rfl; have hfz13_0 := blk_frozen BK262.out 0; have hfz13_1 := blk_frozen BK262.out 1; have hnb14 := NB263_264.out; have hnc14 := NB264_263.out; have hnb15 := NB263_265.out; have hnc15 := NB265_263.out; have hcz16_0 : w9.cell? ⟨gb263, 0, none⟩ = some (.bool a1_0) := (blk_cell BK263.out 0).trans rfl; have hcz16_1 : w9.cell? ⟨gb263, 1, none⟩ = some (.slice A1_1 l1_1.length c1_1) := (blk_cell BK263.out 1).trans rfl; have hfz16_0 := blk_frozen BK263.out 0; have hfz16_1 := blk_frozen BK263.out 1) | ((with_reducible refine gate_callee (f := 29) rfl ?_); refine goesL_ (some 13) rfl rfl Try.func29 (by kernel_rfl) rfl #[.slice A0_1 l0_1.length c0_1, .slice A1_1 l1_1.length c1_1] rfl (by (try simp only [List.map_toArray, List.map_cons, List.map_nil]); first | done | rfl | (simp only [List.length_drop, List.length_take]; rfl)) ?_; (with_reducible refine (spec_magDiv.calls k _ _ l0_1 _ _ l1_1 t266 t269 _ ?side1 ?side2 ?side3 ?side4 A3.out).mono ?_); (case side1 => repeat (first | exact (Kd.C_below HR0_1.out HB.out) | (with_reducible refine Kd.C_alloc ?_ _) | (with_reducible refine Kd.C_drewN ?_ _) | (with_reducible refine Kd.C_drew ?_))); (case side2 => exact HC0_1.out); (case side3 => repeat (first | exact (Kd.C_below HR1_1.out HB.out) | (with_reducible refine Kd.C_alloc ?_ _) | (with_reducible refine Kd.C_drewN ?_ _) | (with_reducible refine Kd.C_drew ?_))); (case side4 => exact HC1_1.out); rintro e w17 ⟨v267, v270, rfl, ho0, ho1, hb⟩; refine ⟨_, rfl, ?_⟩; have n0_ := a0_ (Kd.V_lower (v4_ (ok' := fun k_ => (w.heap.size ≤ k_) ∧ k_ ≠ gb262 ∧ k_ ≠ gb263 ∧ k_ ≠ gb264 ∧ k_ ≠ gb265) ho0 (fun k_ hk_ => ⟨(Nat.le_trans (below_size (by repeat (first | (with_reducible first | exact HB.out | apply b1_ | apply b2_ | apply b3_ | refine b4_ ?_ GE262.out | refine b4_ ?_ GE263.out | refine b4_ ?_ GE264.out | refine b4_ ?_ GE265.out) | exact HB.out))) hk_), (Kd.freshB (g := gb262) (o := .cells #[.bool a0_0, .slice A0_1 l0_1.length c0_1] 29 (0, 0)) (by (with_reducible repeat (first | refine k1_ ?_ _ | refine k2_ ?_ | refine k3_ ?_ _)); exact BK262.out) k_ hk_), (Kd.freshB (g := gb263) (o := .cells #[.bool a1_0, .slice A1_1 l1_1.length c1_1] 29 (0, 0)) (by (with_reducible repeat (first | refine k1_ ?_ _ | refine k2_ ?_ | refine k3_ ?_ _)); exact BK263.out) k_ hk_), (Kd.freshB (g := gb264) (o := .cells #[.bool false, .slice none 0 0] 29 (0, 0)) (by (with_reducible repeat (first | refine k1_ ?_ _ | refine k2_ ?_ | refine k3_ ?_ _)); exact BK264.out) k_ hk_), (Kd.freshB (g := gb265) (o := .cells #[.bool false, .slice none 0 0] 29 (0, 0)) (by (with_reducible repeat (first | refine k1_ ?_ _ | refine k2_ ?_ | refine k3_ ?_ _)); exact BK265.out) k_ hk_)⟩)) (below_size (by repeat (first | (with_reducible first | exact HB.out | apply b1_ | apply b2_ | apply b3_ | refine b4_ ?_ GE262.out | refine b4_ ?_ GE263.out | refine b4_ ?_ GE264.out | refine b4_ ?_ GE265.out) | exact HB.out)))); have n1_ := a0_ (Kd.V_lower (v4_ (ok' := fun k_ => (w.heap.size ≤ k_) ∧ k_ ≠ gb262 ∧ k_ ≠ gb263 ∧ k_ ≠ gb264 ∧ k_ ≠ gb265) ho1 (fun k_ hk_ => ⟨(Nat.le_trans (below_size (by repeat (first | (with_reducible first | exact HB.out | apply b1_ | apply b2_ | apply b3_ | refine b4_ ?_ GE262.out | refine b4_ ?_ GE263.out | refine b4_ ?_ GE264.out | refine b4_ ?_ GE265.out) | exact HB.out))) hk_), (Kd.freshB (g := gb262) (o := .cells #[.bool a0_0, .slice A0_1 l0_1.length c0_1] 29 (0, 0)) (by (with_reducible repeat (first | refine k1_ ?_ _ | refine k2_ ?_ | refine k3_ ?_ _)); exact BK262.out) k_ hk_), (Kd.freshB (g := gb263) (o := .cells #[.bool a1_0, .slice A1_1 l1_1.length c1_1] 29 (0, 0)) (by (with_reducible repeat (first | refine k1_ ?_ _ | refine k2_ ?_ | refine k3_ ?_ _)); exact BK263.out) k_ hk_), (Kd.freshB (g := gb264) (o := .cells #[.bool false, .slice none 0 0] 29 (0, 0)) (by (with_reducible repeat (first | refine k1_ ?_ _ | refine k2_ ?_ | refine k3_ ?_ _)); exact BK264.out) k_ hk_), (Kd.freshB (g := gb265) (o := .cells #[.bool false, .slice none 0 0] 29 (0, 0)) (by (with_reducible repeat (first | refine k1_ ?_ _ | refine k2_ ?_ | refine k3_ ?_ _)); exact BK265.out) k_ hk_)⟩)) (below_size (by repeat (first | (with_reducible first | exact HB.out | apply b1_ | apply b2_ | apply b3_ | refine b4_ ?_ GE262.out | refine b4_ ?_ GE263.out | refine b4_ ?_ GE264.out | refine b4_ ?_ GE265.out) | exact HB.out)))); have n2_ := a0_ (blk_below (g := gb262) (o := .cells #[.bool a0_0, .slice A0_1 l0_1.length c0_1] 29 (0, 0)) (by (with_reducible repeat (first | refine k1_ ?_ _ | refine k2_ ?_ | refine k3_ ?_ _)); exact BK262.out) hb); have n3_ := a0_ (blk_below (g := gb263) (o := .cells #[.bool a1_0, .slice A1_1 l1_1.length c1_1] 29 (0, 0)) (by (with_reducible repeat (first | refine k1_ ?_ _ | refine k2_ ?_ | refine k3_ ?_ _)); exact BK263.out) hb); have n4_ := a0_ (blk_below (g := gb264) (o := .cells #[.bool false, .slice none 0 0] 29 (0, 0)) (by (with_reducible repeat (first | refine k1_ ?_ _ | refine k2_ ?_ | refine k3_ ?_ _)); exact BK264.out) hb); have n5_ := a0_ (blk_below (g := gb265) (o := .cells #[.bool false, .slice none 0 0] 29 (0, 0)) (by (with_reducible repeat (first | refine k1_ ?_ _ | refine k2_ ?_ | refine k3_ ?_ _)); exact BK265.out) hb); have n6_ := a0_ (below_step (by repeat (first | (with_reducible first | exact HB.out | apply b1_ | apply b2_ | apply b3_ | refine b4_ ?_ GE262.out | refine b4_ ?_ GE263.out | refine b4_ ?_ GE264.out | refine b4_ ?_ GE265.out) | exact HB.out)) hb); clear BK262; clear BK263; clear BK264; clear BK265; clear HB; have HO268 := n0_; have HO271 := n1_; have BK262 := n2_; have BK263 := n3_; have BK264 := n4_; have BK265 := n5_; have HB := n6_; clear n0_ n1_ n2_ n3_ n4_ n5_ n6_; (try clear hb); (try clear hb2); (try clear hk); (try clear hi); (try clear ho0); (try clear ho1)))
 have n0_ := a0_ (v3_ HO268.out)
 have n1_ := a0_ (v3_ HO271.out)
 have n2_ := a0_ (k2_ BK262.out)
 have n3_ := a0_ (k2_ BK263.out)
 have n4_ := a0_ (k2_ BK264.out)
 have n5_ := a0_ (k2_ BK265.out)
 have n6_ := a0_ (b3_ HB.out)
 clear HO268
 clear HO271
 clear BK262
 clear BK263
 clear BK264
 clear BK265
 clear HB
 have HO268 := n0_
 have HO271 := n1_
 have BK262 := n2_
 have BK263 := n3_
 have BK264 := n4_
 have BK265 := n5_
 have HB := n6_
 clear n0_ n1_ n2_ n3_ n4_ n5_ n6_
 obtain ⟨Ao19, co19, eo19⟩ := Kd.V_slice HO268.out
 (first | subst eo19 | (injection eo19 with f1_ f2_ f3_; have f4_ := f1_.symm; have f5_ := f3_.symm; clear f1_ f2_ f3_; subst f4_; subst f5_))
 refine start_ (n := 13) (S := fun w' => w'.cell? ⟨gb262, 0, none⟩ = some (.bool a0_0) ∧ w'.cell? ⟨gb262, 1, none⟩ = some (.slice A0_1 l0_1.length c0_1) ∧ w'.cell? ⟨gb263, 0, none⟩ = some (.bool a1_0) ∧ w'.cell? ⟨gb263, 1, none⟩ = some (.slice A1_1 l1_1.length c1_1)) (ds := []) #[false, false, false, false, false, false, false, false, false, false, false, false, false] (by kernel_rfl) rfl rfl ⟨(blk_cell BK262.out 0).trans rfl, (blk_cell BK262.out 1).trans rfl, (blk_cell BK263.out 0).trans rfl, (blk_cell BK263.out 1).trans rfl⟩ (fun hHeld => ?_); refine with_tabW spec_WideDiv.tab2 spec_WideDiv.bits2 (fun HT_ HW_ => ?_)
 generalize w17.drew = w18 at HO268 HO271 BK262 BK263 BK264 BK265 HB hHeld ⊢
 refine pure_ (i := 0) (N := some 16) (v := ?_) (a' := ?_) #[true, false, false, false, false, false, false, false, false, false, false, false, false] rfl rfl (any_of HT_.out (by kernel_rfl)) (fun _ _ _ h => h) (Or.inl ⟨by rfl, ?_⟩) ?_ ?_
 rotate_left
 ·
  intro w'
  go_simp
  with_reducible rfl
 rotate_left
 ·
  simp only [Act.put, s1_, s2_, s3_, i64_w, i32_w]
  rfl
 refine pure_ (i := 2) (N := some 18) (v := ?_) (a' := ?_) #[true, false, true, false, false, false, false, false, false, false, false, false, false] rfl rfl (any_of HT_.out (by kernel_rfl)) (fun _ _ _ h => h) (Or.inl ⟨by rfl, ?_⟩) ?_ ?_
 rotate_left
 ·
  intro w'
  go_simp
  with_reducible rfl
 rotate_left
 ·
  simp only [Act.put, s1_, s2_, s3_, i64_w, i32_w]
  rfl
 refine pure_ (i := 5) (N := some 21) (v := ?_) (a' := ?_) #[true, false, true, false, false, true, false, false, false, false, false, false, false] rfl rfl (any_of HT_.out (by kernel_rfl)) (fun _ _ _ h => h) (Or.inl ⟨by rfl, ?_⟩) ?_ ?_
 rotate_left
 ·
  intro w'
  go_simp
  with_reducible rfl
 rotate_left
 ·
  simp only [Act.put, s1_, s2_, s3_, i64_w, i32_w]
  rfl
 refine pure_ (i := 7) (N := some 23) (v := ?_) (a' := ?_) #[true, false, true, false, false, true, false, true, false, false, false, false, false] rfl rfl (any_of HT_.out (by kernel_rfl)) (fun _ _ _ h => h) (Or.inl ⟨by rfl, ?_⟩) ?_ ?_
 rotate_left
 ·
  intro w'
  go_simp
  with_reducible rfl
 rotate_left
 ·
  simp only [Act.put, s1_, s2_, s3_, i64_w, i32_w]
  rfl
 refine pure_ (i := 9) (N := some 25) (v := ?_) (a' := ?_) #[true, false, true, false, false, true, false, true, false, true, false, false, false] rfl rfl (any_of HT_.out (by kernel_rfl)) (fun _ _ _ h => h) (Or.inl ⟨by rfl, ?_⟩) ?_ ?_
 rotate_left
 ·
  intro w'
  go_simp
  with_reducible rfl
 rotate_left
 ·
  simp only [Act.put, s1_, s2_, s3_, i64_w, i32_w]
  rfl
 refine take_ (i := 1) (N := some 17) (v := ?_) (a' := ?_) #[true, true, true, false, false, true, false, true, false, true, false, false, false] rfl rfl (take_ofW HT_.out HW_.out (by kernel_rfl)) (fun _ _ _ h => h) (Or.inl ⟨by rfl, ?_⟩) hHeld ?_ ?_
 rotate_left
 ·
  rintro w' ⟨s0, s1, s2, s3⟩
  go_simp
  with_reducible rfl
 rotate_left
 ·
  simp only [Act.put, s1_, s2_, s3_, i64_w, i32_w]
  rfl
 refine take_ (i := 3) (N := some 19) (v := ?_) (a' := ?_) #[true, true, true, true, false, true, false, true, false, true, false, false, false] rfl rfl (take_ofW HT_.out HW_.out (by kernel_rfl)) (fun _ _ _ h => h) (Or.inl ⟨by rfl, ?_⟩) hHeld ?_ ?_
 rotate_left
 ·
  rintro w' ⟨s0, s1, s2, s3⟩
  go_simp
  with_reducible rfl
 rotate_left
 ·
  simp only [Act.put, s1_, s2_, s3_, i64_w, i32_w]
  rfl
 refine pure_ (i := 4) (N := some 20) (v := ?_) (a' := ?_) #[true, true, true, true, true, true, false, true, false, true, false, false, false] rfl rfl (any_of HT_.out (by kernel_rfl)) (fun _ _ _ h => h) (Or.inl ⟨by rfl, ?_⟩) ?_ ?_
 rotate_left
 ·
  intro w'
  go_simp
  with_reducible rfl
 rotate_left
 ·
  simp only [Act.put, s1_, s2_, s3_, i64_w, i32_w]
  rfl
 refine take_ (i := 8) (N := some 24) (v := ?_) (a' := ?_) #[true, true, true, true, true, true, false, true, true, true, false, false, false] rfl rfl (take_ofW HT_.out HW_.out (by kernel_rfl)) (fun _ _ _ h => h) (Or.inl ⟨by rfl, ?_⟩) hHeld ?_ ?_
 rotate_left
 ·
  rintro w' ⟨s0, s1, s2, s3⟩
  go_simp
  with_reducible rfl
 rotate_left
 ·
  simp only [Act.put, s1_, s2_, s3_, i64_w, i32_w]
  rfl
 refine one_ (i := 6) (N := some 22) #[true, true, true, true, true, true, true, true, true, true, false, false, false] rfl rfl (one_of HT_.out (by kernel_rfl)) (by decide) (fun K hK => ?_)
 refine goes_ Try.func30 (by kernel_rfl) rfl #[.bool (a0_0 != a1_0), .slice Ao19 t266.length co19] (by rfl) rfl rfl (by (try simp only [List.map_toArray, List.map_cons, List.map_nil]); first | done | rfl | (simp only [List.length_drop, List.length_take]; rfl)) ?_
 with_reducible refine (spec_wide.calls k (a0_0 != a1_0) (fun k_ => ((w.heap.size ≤ k_) ∧ (k_ ≠ gb262 ∧ (k_ ≠ gb263 ∧ (k_ ≠ gb264 ∧ k_ ≠ gb265))))) _ _ t266 t272 t273 _ ?side1 A4.out).mono ?_
 (case side1 => exact HO268.out)
 rintro e w20 ⟨v274, rfl, ho0, hb⟩
 refine ⟨_, rfl, ?_⟩
 have n0_ := a0_ (Kd.V_below (by (with_reducible repeat (first | apply v1_ | apply v2_ | apply v3_)); exact HO268.out) hb)
 have n1_ := a0_ (Kd.V_below (by (with_reducible repeat (first | apply v1_ | apply v2_ | apply v3_)); exact HO271.out) hb)
 have n2_ := a0_ (Kd.V_lower (v4_ (ok' := fun k_ => (w.heap.size ≤ k_) ∧ k_ ≠ gb262 ∧ k_ ≠ gb263 ∧ k_ ≠ gb264 ∧ k_ ≠ gb265) ho0 (fun k_ hk_ => ⟨Or.elim hk_ (fun hs_ => hs_.1) (fun hn_ => (Nat.le_trans (below_size (by repeat (first | (with_reducible first | exact HB.out | apply b1_ | apply b2_ | apply b3_ | refine b4_ ?_ GE262.out | refine b4_ ?_ GE263.out | refine b4_ ?_ GE264.out | refine b4_ ?_ GE265.out) | exact HB.out))) hn_)), Or.elim hk_ (fun hs_ => hs_.2.1) (fun hn_ => (Kd.freshB (g := gb262) (o := .cells #[.bool a0_0, .slice A0_1 l0_1.length c0_1] 29 (0, 0)) (by (with_reducible repeat (first | refine k1_ ?_ _ | refine k2_ ?_ | refine k3_ ?_ _)); exact BK262.out) k_ hn_)), Or.elim hk_ (fun hs_ => hs_.2.2.1) (fun hn_ => (Kd.freshB (g := gb263) (o := .cells #[.bool a1_0, .slice A1_1 l1_1.length c1_1] 29 (0, 0)) (by (with_reducible repeat (first | refine k1_ ?_ _ | refine k2_ ?_ | refine k3_ ?_ _)); exact BK263.out) k_ hn_)), Or.elim hk_ (fun hs_ => hs_.2.2.2.1) (fun hn_ => (Kd.freshB (g := gb264) (o := .cells #[.bool false, .slice none 0 0] 29 (0, 0)) (by (with_reducible repeat (first | refine k1_ ?_ _ | refine k2_ ?_ | refine k3_ ?_ _)); exact BK264.out) k_ hn_)), Or.elim hk_ (fun hs_ => hs_.2.2.2.2) (fun hn_ => (Kd.freshB (g := gb265) (o := .cells #[.bool false, .slice none 0 0] 29 (0, 0)) (by (with_reducible repeat (first | refine k1_ ?_ _ | refine k2_ ?_ | refine k3_ ?_ _)); exact BK265.out) k_ hn_))⟩)) (below_size (by repeat (first | (with_reducible first | exact HB.out | apply b1_ | apply b2_ | apply b3_ | refine b4_ ?_ GE262.out | refine b4_ ?_ GE263.out | refine b4_ ?_ GE264.out | refine b4_ ?_ GE265.out) | exact HB.out))))
 have n3_ := a0_ (blk_below (g := gb262) (o := .cells #[.bool a0_0, .slice A0_1 l0_1.length c0_1] 29 (0, 0)) (by (with_reducible repeat (first | refine k1_ ?_ _ | refine k2_ ?_ | refine k3_ ?_ _)); exact BK262.out) hb)
 have n4_ := a0_ (blk_below (g := gb263) (o := .cells #[.bool a1_0, .slice A1_1 l1_1.length c1_1] 29 (0, 0)) (by (with_reducible repeat (first | refine k1_ ?_ _ | refine k2_ ?_ | refine k3_ ?_ _)); exact BK263.out) hb)
 have n5_ := a0_ (blk_below (g := gb264) (o := .cells #[.bool false, .slice none 0 0] 29 (0, 0)) (by (with_reducible repeat (first | refine k1_ ?_ _ | refine k2_ ?_ | refine k3_ ?_ _)); exact BK264.out) hb)
 have n6_ := a0_ (blk_below (g := gb265) (o := .cells #[.bool false, .slice none 0 0] 29 (0, 0)) (by (with_reducible repeat (first | refine k1_ ?_ _ | refine k2_ ?_ | refine k3_ ?_ _)); exact BK265.out) hb)
 have n7_ := a0_ (below_step (by repeat (first | (with_reducible first | exact HB.out | apply b1_ | apply b2_ | apply b3_ | refine b4_ ?_ GE262.out | refine b4_ ?_ GE263.out | refine b4_ ?_ GE264.out | refine b4_ ?_ GE265.out) | exact HB.out)) hb)
 clear HO268
 clear HO271
 clear BK262
 clear BK263
 clear BK264
 clear BK265
 clear HB
 have HO268 := n0_
 have HO271 := n1_
 have HO275 := n2_
 have BK262 := n3_
 have BK263 := n4_
 have BK264 := n5_
 have BK265 := n6_
 have HB := n7_
 clear n0_ n1_ n2_ n3_ n4_ n5_ n6_ n7_
 (try clear hb)
 (try clear hb2)
 (try clear hk)
 (try clear hi)
 (try clear ho0)
 obtain ⟨Ao21, co21, eo21⟩ := Kd.V_slice HO271.out
 (first | subst eo21 | (injection eo21 with f1_ f2_ f3_; have f4_ := f1_.symm; have f5_ := f3_.symm; clear f1_ f2_ f3_; subst f4_; subst f5_))
 refine hK.out _ _ ⟨(blk_cell BK262.out 0).trans rfl, (blk_cell BK262.out 1).trans rfl, (blk_cell BK263.out 0).trans rfl, (blk_cell BK263.out 1).trans rfl⟩ (fun hHeld => ?_)
 clear hK K
 refine norm_ (a' := ?_) ?_ ?_
 rotate_left
 ·
  show Act.put _ (some 22) _ = _
  simp only [Act.put, s1_, s2_, s3_, i64_w, i32_w]
  rfl
 refine one_ (i := 10) (N := some 26) #[true, true, true, true, true, true, true, true, true, true, true, false, false] rfl rfl (one_of HT_.out (by kernel_rfl)) (by decide) (fun K hK => ?_)
 refine goes_ Try.func30 (by kernel_rfl) rfl #[.bool a0_0, .slice Ao21 t269.length co21] (by rfl) rfl rfl (by (try simp only [List.map_toArray, List.map_cons, List.map_nil]); first | done | rfl | (simp only [List.length_drop, List.length_take]; rfl)) ?_
 with_reducible refine (spec_wide.calls k a0_0 (fun k_ => ((w.heap.size ≤ k_) ∧ (k_ ≠ gb262 ∧ (k_ ≠ gb263 ∧ (k_ ≠ gb264 ∧ k_ ≠ gb265))))) _ _ t269 t276 t277 _ ?side1 A5.out).mono ?_
 (case side1 => exact HO271.out)
 rintro e w22 ⟨v278, rfl, ho0, hb⟩
 refine ⟨_, rfl, ?_⟩
 have n0_ := a0_ (Kd.V_below (by (with_reducible repeat (first | apply v1_ | apply v2_ | apply v3_)); exact HO268.out) hb)
 have n1_ := a0_ (Kd.V_below (by (with_reducible repeat (first | apply v1_ | apply v2_ | apply v3_)); exact HO271.out) hb)
 have n2_ := a0_ (Kd.V_below (by (with_reducible repeat (first | apply v1_ | apply v2_ | apply v3_)); exact HO275.out) hb)
 have n3_ := a0_ (Kd.V_lower (v4_ (ok' := fun k_ => (w.heap.size ≤ k_) ∧ k_ ≠ gb262 ∧ k_ ≠ gb263 ∧ k_ ≠ gb264 ∧ k_ ≠ gb265) ho0 (fun k_ hk_ => ⟨Or.elim hk_ (fun hs_ => hs_.1) (fun hn_ => (Nat.le_trans (below_size (by repeat (first | (with_reducible first | exact HB.out | apply b1_ | apply b2_ | apply b3_ | refine b4_ ?_ GE262.out | refine b4_ ?_ GE263.out | refine b4_ ?_ GE264.out | refine b4_ ?_ GE265.out) | exact HB.out))) hn_)), Or.elim hk_ (fun hs_ => hs_.2.1) (fun hn_ => (Kd.freshB (g := gb262) (o := .cells #[.bool a0_0, .slice A0_1 l0_1.length c0_1] 29 (0, 0)) (by (with_reducible repeat (first | refine k1_ ?_ _ | refine k2_ ?_ | refine k3_ ?_ _)); exact BK262.out) k_ hn_)), Or.elim hk_ (fun hs_ => hs_.2.2.1) (fun hn_ => (Kd.freshB (g := gb263) (o := .cells #[.bool a1_0, .slice A1_1 l1_1.length c1_1] 29 (0, 0)) (by (with_reducible repeat (first | refine k1_ ?_ _ | refine k2_ ?_ | refine k3_ ?_ _)); exact BK263.out) k_ hn_)), Or.elim hk_ (fun hs_ => hs_.2.2.2.1) (fun hn_ => (Kd.freshB (g := gb264) (o := .cells #[.bool false, .slice none 0 0] 29 (0, 0)) (by (with_reducible repeat (first | refine k1_ ?_ _ | refine k2_ ?_ | refine k3_ ?_ _)); exact BK264.out) k_ hn_)), Or.elim hk_ (fun hs_ => hs_.2.2.2.2) (fun hn_ => (Kd.freshB (g := gb265) (o := .cells #[.bool false, .slice none 0 0] 29 (0, 0)) (by (with_reducible repeat (first | refine k1_ ?_ _ | refine k2_ ?_ | refine k3_ ?_ _)); exact BK265.out) k_ hn_))⟩)) (below_size (by repeat (first | (with_reducible first | exact HB.out | apply b1_ | apply b2_ | apply b3_ | refine b4_ ?_ GE262.out | refine b4_ ?_ GE263.out | refine b4_ ?_ GE264.out | refine b4_ ?_ GE265.out) | exact HB.out))))
 have n4_ := a0_ (blk_below (g := gb262) (o := .cells #[.bool a0_0, .slice A0_1 l0_1.length c0_1] 29 (0, 0)) (by (with_reducible repeat (first | refine k1_ ?_ _ | refine k2_ ?_ | refine k3_ ?_ _)); exact BK262.out) hb)
 have n5_ := a0_ (blk_below (g := gb263) (o := .cells #[.bool a1_0, .slice A1_1 l1_1.length c1_1] 29 (0, 0)) (by (with_reducible repeat (first | refine k1_ ?_ _ | refine k2_ ?_ | refine k3_ ?_ _)); exact BK263.out) hb)
 have n6_ := a0_ (blk_below (g := gb264) (o := .cells #[.bool false, .slice none 0 0] 29 (0, 0)) (by (with_reducible repeat (first | refine k1_ ?_ _ | refine k2_ ?_ | refine k3_ ?_ _)); exact BK264.out) hb)
 have n7_ := a0_ (blk_below (g := gb265) (o := .cells #[.bool false, .slice none 0 0] 29 (0, 0)) (by (with_reducible repeat (first | refine k1_ ?_ _ | refine k2_ ?_ | refine k3_ ?_ _)); exact BK265.out) hb)
 have n8_ := a0_ (below_step (by repeat (first | (with_reducible first | exact HB.out | apply b1_ | apply b2_ | apply b3_ | refine b4_ ?_ GE262.out | refine b4_ ?_ GE263.out | refine b4_ ?_ GE264.out | refine b4_ ?_ GE265.out) | exact HB.out)) hb)
 clear HO268
 clear HO271
 clear HO275
 clear BK262
 clear BK263
 clear BK264
 clear BK265
 clear HB
 have HO268 := n0_
 have HO271 := n1_
 have HO275 := n2_
 have HO279 := n3_
 have BK262 := n4_
 have BK263 := n5_
 have BK264 := n6_
 have BK265 := n7_
 have HB := n8_
 clear n0_ n1_ n2_ n3_ n4_ n5_ n6_ n7_ n8_
 (try clear hb)
 (try clear hb2)
 (try clear hk)
 (try clear hi)
 (try clear ho0)
 obtain ⟨Ao24, co24, eo24⟩ := Kd.V_slice HO275.out
 (first | subst eo24 | (injection eo24 with f1_ f2_ f3_; have f4_ := f1_.symm; have f5_ := f3_.symm; clear f1_ f2_ f3_; subst f4_; subst f5_))
 obtain ⟨Ao27, co27, eo27⟩ := Kd.V_slice HO279.out
 (first | subst eo27 | (injection eo27 with f1_ f2_ f3_; have f4_ := f1_.symm; have f5_ := f3_.symm; clear f1_ f2_ f3_; subst f4_; subst f5_))
 refine hK.out _ _ ⟨(blk_cell BK262.out 0).trans rfl, (blk_cell BK262.out 1).trans rfl, (blk_cell BK263.out 0).trans rfl, (blk_cell BK263.out 1).trans rfl⟩ (fun hHeld => ?_)
 clear hK K
 refine norm_ (a' := ?_) ?_ ?_
 rotate_left
 ·
  show Act.put _ (some 26) _ = _
  simp only [Act.put, s1_, s2_, s3_, i64_w, i32_w]
  rfl
 refine one_ (i := 11) (N := none) #[true, true, true, true, true, true, true, true, true, true, true, true, false] rfl rfl (one_of HT_.out (by kernel_rfl)) (by decide) (fun K hK => ?_)
 have hs23 : w22.cell? ⟨gb264, 0, none⟩ = some (.bool false) := (blk_cell BK264.out 0).trans rfl
 have hfs23 := blk_frozen BK264.out 0
 have hns23_0 := NB262_264.out
 have hns23_1 := NB263_264.out
 have hns23_3 := NB265_264.out
 have hms23_0 := NB264_262.out
 have hms23_1 := NB264_263.out
 have hms23_3 := NB264_265.out
 have hs25 : w22.cell? ⟨gb264, 1, none⟩ = some (.slice none 0 0) := (blk_cell BK264.out 1).trans rfl
 have hfs25 := blk_frozen BK264.out 1
 have hns25_0 := NB262_264.out
 have hns25_1 := NB263_264.out
 have hns25_3 := NB265_264.out
 have hms25_0 := NB264_262.out
 have hms25_1 := NB264_263.out
 have hms25_3 := NB264_265.out
 refine skip_ (w1 := ?_) (by rfl) rfl ?_ ?_
 rotate_left
 ·
  go_simp
  rfl
 refine hK.out _ _ ⟨((cell_far (p := ⟨gb264, _, none⟩) NB262_264.out _).trans (((cell_far (p := ⟨gb264, _, none⟩) NB262_264.out _).trans (hHeld.1)))), ((cell_far (p := ⟨gb264, _, none⟩) NB262_264.out _).trans (((cell_far (p := ⟨gb264, _, none⟩) NB262_264.out _).trans (hHeld.2.1)))), ((cell_far (p := ⟨gb264, _, none⟩) NB263_264.out _).trans (((cell_far (p := ⟨gb264, _, none⟩) NB263_264.out _).trans (hHeld.2.2.1)))), ((cell_far (p := ⟨gb264, _, none⟩) NB263_264.out _).trans (((cell_far (p := ⟨gb264, _, none⟩) NB263_264.out _).trans (hHeld.2.2.2))))⟩ (fun hHeld => ?_)
 clear hK K
 refine one_ (i := 12) (N := none) #[true, true, true, true, true, true, true, true, true, true, true, true, true] rfl rfl (one_of HT_.out (by kernel_rfl)) (by decide) (fun K hK => ?_)
 have hs26 : w22.cell? ⟨gb265, 0, none⟩ = some (.bool false) := (blk_cell BK265.out 0).trans rfl
 have hfs26 := blk_frozen BK265.out 0
 have hns26_0 := NB262_265.out
 have hns26_1 := NB263_265.out
 have hns26_2 := NB264_265.out
 have hms26_0 := NB265_262.out
 have hms26_1 := NB265_263.out
 have hms26_2 := NB265_264.out
 have hs28 : w22.cell? ⟨gb265, 1, none⟩ = some (.slice none 0 0) := (blk_cell BK265.out 1).trans rfl
 have hfs28 := blk_frozen BK265.out 1
 have hns28_0 := NB262_265.out
 have hns28_1 := NB263_265.out
 have hns28_2 := NB264_265.out
 have hms28_0 := NB265_262.out
 have hms28_1 := NB265_263.out
 have hms28_2 := NB265_264.out
 refine skip_ (w1 := ?_) (by rfl) rfl ?_ ?_
 rotate_left
 ·
  go_simp
  rfl
 refine hK.out _ _ ⟨((cell_far (p := ⟨gb265, _, none⟩) NB262_265.out _).trans (((cell_far (p := ⟨gb265, _, none⟩) NB262_265.out _).trans (hHeld.1)))), ((cell_far (p := ⟨gb265, _, none⟩) NB262_265.out _).trans (((cell_far (p := ⟨gb265, _, none⟩) NB262_265.out _).trans (hHeld.2.1)))), ((cell_far (p := ⟨gb265, _, none⟩) NB263_265.out _).trans (((cell_far (p := ⟨gb265, _, none⟩) NB263_265.out _).trans (hHeld.2.2.1)))), ((cell_far (p := ⟨gb265, _, none⟩) NB263_265.out _).trans (((cell_far (p := ⟨gb265, _, none⟩) NB263_265.out _).trans (hHeld.2.2.2))))⟩ (fun hHeld => ?_)
 clear hK K
 refine done_ (done_of HT_.out (by kernel_rfl)) ?_
 try go_wp2
 refine bodyPost_ret (results_cc rfl _ _ gb264 gb265 29 29 #[.bool t272, .slice Ao24 t273.length co24] #[.bool t276, .slice Ao27 t277.length co27] (0, 0) (0, 0) _ _ rfl (by (with_reducible repeat (first | refine k1_ ?_ _ | refine k2_ ?_ | refine k3_ ?_ _)); refine blk_far ?_ NB264_265.out _; (with_reducible repeat (first | refine k1_ ?_ _ | refine k2_ ?_ | refine k3_ ?_ _)); refine blk_far ?_ NB264_265.out _; (with_reducible repeat (first | refine k1_ ?_ _ | refine k2_ ?_ | refine k3_ ?_ _)); refine blk_put (cs := #[.bool t272, .slice none 0 0]) ?_ 1 _ rfl; (with_reducible repeat (first | refine k1_ ?_ _ | refine k2_ ?_ | refine k3_ ?_ _)); refine blk_put (cs := #[.bool false, .slice none 0 0]) ?_ 0 _ rfl; (with_reducible repeat (first | refine k1_ ?_ _ | refine k2_ ?_ | refine k3_ ?_ _)); exact BK264.out) Try.underlying29 rfl (by kernel_rfl) rfl (by (with_reducible repeat (first | refine k1_ ?_ _ | refine k2_ ?_ | refine k3_ ?_ _)); refine blk_put (cs := #[.bool t276, .slice none 0 0]) ?_ 1 _ rfl; (with_reducible repeat (first | refine k1_ ?_ _ | refine k2_ ?_ | refine k3_ ?_ _)); refine blk_put (cs := #[.bool false, .slice none 0 0]) ?_ 0 _ rfl; (with_reducible repeat (first | refine k1_ ?_ _ | refine k2_ ?_ | refine k3_ ?_ _)); refine blk_far ?_ NB265_264.out _; (with_reducible repeat (first | refine k1_ ?_ _ | refine k2_ ?_ | refine k3_ ?_ _)); refine blk_far ?_ NB265_264.out _; (with_reducible repeat (first | refine k1_ ?_ _ | refine k2_ ?_ | refine k3_ ?_ _)); exact BK265.out) Try.underlying29 rfl (by kernel_rfl)) rfl ?_
 exact ⟨_, _, by first | rfl | (simp [e1_, e2_] <;> rfl) | (simp [*, e1_, e2_] <;> rfl), by (with_reducible repeat (first | apply v1_ | apply v2_ | apply v3_)); exact v4_ (v5_ (p := ⟨gb265, 1, none⟩) (v5_ (p := ⟨gb265, 0, none⟩) (v5_ (p := ⟨gb264, 1, none⟩) (v5_ (p := ⟨gb264, 0, none⟩) (v4_ (v4_ HO275.out (fun k_ hk => (⟨hk, hk.2.2.2.1⟩ : _ ∧ k_ ≠ gb264))) (fun k_ hk => (⟨hk, hk.1.2.2.2.2⟩ : _ ∧ k_ ≠ gb265))) (fun _ hk => hk.1.2) (.bool t272)) (fun _ hk => hk.1.2) (.slice Ao24 t273.length co24)) (fun _ hk => hk.2) (.bool t276)) (fun _ hk => hk.2) (.slice Ao27 t277.length co27)) (fun _ hk => hk.1.1.1), by (with_reducible repeat (first | apply v1_ | apply v2_ | apply v3_)); exact v4_ (v5_ (p := ⟨gb265, 1, none⟩) (v5_ (p := ⟨gb265, 0, none⟩) (v5_ (p := ⟨gb264, 1, none⟩) (v5_ (p := ⟨gb264, 0, none⟩) (v4_ (v4_ HO279.out (fun k_ hk => (⟨hk, hk.2.2.2.1⟩ : _ ∧ k_ ≠ gb264))) (fun k_ hk => (⟨hk, hk.1.2.2.2.2⟩ : _ ∧ k_ ≠ gb265))) (fun _ hk => hk.1.2) (.bool t272)) (fun _ hk => hk.1.2) (.slice Ao24 t273.length co24)) (fun _ hk => hk.2) (.bool t276)) (fun _ hk => hk.2) (.slice Ao27 t277.length co27)) (fun _ hk => hk.1.1.1), by repeat (first | (with_reducible first | exact HB.out | apply b1_ | apply b2_ | apply b3_ | refine b4_ ?_ GE262.out | refine b4_ ?_ GE263.out | refine b4_ ?_ GE264.out | refine b4_ ?_ GE265.out) | exact HB.out)⟩

/-! ### spec_Two: function 72 -/
def spec_Two.f (k : Nat) (a0 : Int) : Option (Bool × List Int) := if 0 ≤ (wrap64 ((wrap64 (Int.tdiv a0 32)) + 1)) then (if (wrap64 ((wrap64 (Int.tdiv a0 32)) + 1) : Int).toNat ≤ 70368744177664 then ((some (List.replicate (wrap64 ((wrap64 (Int.tdiv a0 32)) + 1) : Int).toNat 0 : List Int)).bind fun y193 => (if 0 ≤ (Int.tmod a0 32) then (if 0 ≤ (wrap64 (Int.tdiv a0 32)) then (if (wrap64 (Int.tdiv a0 32)) < (y193.length : Int) then ((spec_wide.f k false (y193.set ((wrap64 (Int.tdiv a0 32)) : Int).toNat (shl .u32 1 (Int.tmod a0 32)))).bind fun bt197 => (some (bt197.1, bt197.2))) else (none)) else (none)) else (none))) else (none)) else (none)
set_option maxHeartbeats 8000000 in
set_option maxRecDepth 100000 in
theorem spec_Two.calls (k : Nat) (a0 : Int) (r1 : Bool) (r2 : List Int) (w : World) (h : spec_Two.f k a0 = some (r1, r2)) :
  Calls Try.prog 72 #[.int .i64 a0] w fun e w' => ∃ v1_ : Value, e = .returned (.agg #[.bool r1, v1_]) ∧ Kd.V (Kd.int .u32) 96 w' w.heap.size (fun k_ => (w.heap.size ≤ k_)) v1_ r2 ∧ Below w.heap.size w w' := by
 have hu29 := Try.underlying29
 have HB := a0_ (Below.refl w.heap.size w)
 have H : (if 0 ≤ (wrap64 ((wrap64 (Int.tdiv a0 32)) + 1)) then (if (wrap64 ((wrap64 (Int.tdiv a0 32)) + 1) : Int).toNat ≤ 70368744177664 then ((some (List.replicate (wrap64 ((wrap64 (Int.tdiv a0 32)) + 1) : Int).toNat 0 : List Int)).bind fun y193 => (if 0 ≤ (Int.tmod a0 32) then (if 0 ≤ (wrap64 (Int.tdiv a0 32)) then (if (wrap64 (Int.tdiv a0 32)) < (y193.length : Int) then ((spec_wide.f k false (y193.set ((wrap64 (Int.tdiv a0 32)) : Int).toNat (shl .u32 1 (Int.tmod a0 32)))).bind fun bt197 => (some (bt197.1, bt197.2))) else (none)) else (none)) else (none))) else (none)) else (none)) = some (r1, r2) := h
 clear h
 obtain ⟨ji2, hji2⟩ : ∃ j_ : Int, (wrap64 ((wrap64 (Int.tdiv a0 32)) + 1)) = j_ := ⟨_, rfl⟩
 replace H : (if 0 ≤ (ji2) then (if (ji2 : Int).toNat ≤ 70368744177664 then ((some (List.replicate (ji2 : Int).toNat 0 : List Int)).bind fun y193 => (if 0 ≤ (Int.tmod a0 32) then (if 0 ≤ (wrap64 (Int.tdiv a0 32)) then (if (wrap64 (Int.tdiv a0 32)) < (y193.length : Int) then ((spec_wide.f k false (y193.set ((wrap64 (Int.tdiv a0 32)) : Int).toNat (shl .u32 1 (Int.tmod a0 32)))).bind fun bt197 => (some (bt197.1, bt197.2))) else (none)) else (none)) else (none))) else (none)) else (none)) = some (r1, r2) := by first | (rw [hji2] at H; exact H) | (simp only [hji2] at H ⊢; exact H)
 have hji2w : (IntKind.i64.wrap ((wrap64 (Int.tdiv a0 32)) + 1)) = ji2 := (i64_w _).trans hji2
 by_cases c3 : 0 ≤ (ji2)
 ·
  rw [if_pos c3] at H
  have c3b0 := eq_true c3
  have c3b1 : decide (0 ≤ (ji2)) = true := d2_ c3
  clear c3
  by_cases c4 : (ji2 : Int).toNat ≤ 70368744177664
  ·
   rw [if_pos c4] at H
   have c4b0 := eq_true c4
   have c4b1 : decide ((ji2 : Int).toNat ≤ 70368744177664) = true := d2_ c4
   clear c4
   obtain ⟨y193, hy193⟩ : ∃ y_ : List Int, y_ = (List.replicate (ji2 : Int).toNat 0) := ⟨_, rfl⟩
   replace H : (if 0 ≤ (Int.tmod a0 32) then (if 0 ≤ (wrap64 (Int.tdiv a0 32)) then (if (wrap64 (Int.tdiv a0 32)) < (y193.length : Int) then ((spec_wide.f k false (y193.set ((wrap64 (Int.tdiv a0 32)) : Int).toNat (shl .u32 1 (Int.tmod a0 32)))).bind fun bt197 => (some (bt197.1, bt197.2))) else (none)) else (none)) else (none)) = some (r1, r2) := by first | (rw [hy193]; with_reducible exact H) | (have H2_ := (o2_ _ _).symm.trans H; rw [hy193]; with_reducible exact H2_) | (have H2_ := (o2_ _ _).symm.trans H; with_reducible exact H2_) | with_reducible exact H | (rw [hy193]; exact H) | exact H
   have Ny193 := a0_ hy193
   clear hy193
   obtain ⟨ji5, hji5⟩ : ∃ j_ : Int, (Int.tmod a0 32) = j_ := ⟨_, rfl⟩
   replace H : (if 0 ≤ (ji5) then (if 0 ≤ (wrap64 (Int.tdiv a0 32)) then (if (wrap64 (Int.tdiv a0 32)) < (y193.length : Int) then ((spec_wide.f k false (y193.set ((wrap64 (Int.tdiv a0 32)) : Int).toNat (shl .u32 1 (ji5)))).bind fun bt197 => (some (bt197.1, bt197.2))) else (none)) else (none)) else (none)) = some (r1, r2) := by first | (rw [hji5] at H; exact H) | (simp only [hji5] at H ⊢; exact H)
   by_cases c6 : 0 ≤ (ji5)
   ·
    rw [if_pos c6] at H
    have c6b0 := eq_true c6
    have c6b1 : decide (0 ≤ (ji5)) = true := d2_ c6
    clear c6
    obtain ⟨ji7, hji7⟩ : ∃ j_ : Int, (shl .u32 1 (ji5)) = j_ := ⟨_, rfl⟩
    replace H : (if 0 ≤ (wrap64 (Int.tdiv a0 32)) then (if (wrap64 (Int.tdiv a0 32)) < (y193.length : Int) then ((spec_wide.f k false (y193.set ((wrap64 (Int.tdiv a0 32)) : Int).toNat (ji7))).bind fun bt197 => (some (bt197.1, bt197.2))) else (none)) else (none)) = some (r1, r2) := by first | (rw [hji7] at H; exact H) | (simp only [hji7] at H ⊢; exact H)
    have hji7_ : (IntKind.u32.wrap (1 * 2 ^ min (ji5).toNat 32)) = ji7 := hji7
    have hji7z : (ji5) ≤ 32 → (IntKind.u32.wrap (1 * 2 ^ (ji5).toNat)) = ji7 := shl_small hji7
    have hji7u : (IntKind.u32.wrap (2 ^ min (ji5).toNat 32)) = ji7 := by have h_ := hji7_; rw [Int.one_mul] at h_; exact h_
    have hji7v : (ji5) ≤ 32 → (IntKind.u32.wrap (2 ^ (ji5).toNat)) = ji7 := fun hle_ => by have h_ := hji7z hle_; rw [Int.one_mul] at h_; exact h_
    obtain ⟨ji8, hji8⟩ : ∃ j_ : Int, (wrap64 (Int.tdiv a0 32)) = j_ := ⟨_, rfl⟩
    replace H : (if 0 ≤ (ji8) then (if (ji8) < (y193.length : Int) then ((spec_wide.f k false (y193.set ((ji8) : Int).toNat (ji7))).bind fun bt197 => (some (bt197.1, bt197.2))) else (none)) else (none)) = some (r1, r2) := by first | (rw [hji8] at H; exact H) | (simp only [hji8] at H ⊢; exact H)
    have hji8w : (IntKind.i64.wrap (Int.tdiv a0 32)) = ji8 := (i64_w _).trans hji8
    (try rw [hji8] at hji2); (try rw [hji8] at hji2w); (try rw [hji8w] at hji2w)
    by_cases c9 : 0 ≤ (ji8)
    ·
     rw [if_pos c9] at H
     have c9b0 : decide (0 ≤ (ji8)) = true := d2_ c9
     clear c9
     by_cases c10 : (ji8) < (y193.length : Int)
     ·
      rw [if_pos c10] at H
      have c10b0 : decide ((ji8) < (y193.length : Int)) = true := d2_ c10
      clear c10
      obtain ⟨y196, hy196⟩ : ∃ y_ : List Int, y_ = (y193.set ((ji8) : Int).toNat (ji7)) := ⟨_, rfl⟩
      replace H : ((spec_wide.f k false y196).bind fun bt197 => (some (bt197.1, bt197.2))) = some (r1, r2) := by first | (rw [hy196]; with_reducible exact H) | (have H2_ := (o2_ _ _).symm.trans H; rw [hy196]; with_reducible exact H2_) | (have H2_ := (o2_ _ _).symm.trans H; with_reducible exact H2_) | with_reducible exact H | (rw [hy196]; exact H) | exact H
      have Ny196 := a0_ hy196
      clear hy196
      replace H := Option.bind_eq_some_iff.mp H
      obtain ⟨⟨t197, t198⟩, A120, H⟩ := H
      replace H : (some (t197, t198)) = some (r1, r2) := H
      have A12 := a0_ A120
      clear A120
      simp only [Option.some.injEq, Prod.mk.injEq] at H
      obtain ⟨rfl, rfl⟩ := H
      go_enter Try.func72, Try.ntmps72
      go_wp2_with (first | ((with_reducible refine gate_dst (N := 2) rfl ?_); refine box_event ?hg (N := 2) ?hd (cs := #[.bool false, .slice none 0 0]) (t := 29) ?hr ?_; (case hd => rfl); (case hg => rfl); (case hr => first | (go_simp; done) | (go_simp; rfl)); intro gb192 hg w13 hbox hb; have n0_ := a0_ (below_step (by repeat (first | (with_reducible first | exact HB.out | apply b1_ | apply b2_ | apply b3_) | exact HB.out)) hb); have n1_ := a0_ (hbox); have n2_ := a0_ ((by rw [hg]; exact (below_size (by repeat (first | (with_reducible first | exact HB.out | apply b1_ | apply b2_ | apply b3_) | exact HB.out))) : w.heap.size ≤ gb192)); have n3_ := a0_ ((by rw [hg]; exact (below_size (by repeat (first | (with_reducible first | exact HB.out | apply b1_ | apply b2_ | apply b3_) | exact HB.out))) : w.heap.size ≤ gb192)); clear HB; have HB := n0_; have BK192 := n1_; have GW192 := n2_; have GE192 := n3_; clear n0_ n1_ n2_ n3_; clear hb hbox hg) | ((with_reducible refine gate_dst (N := 7) rfl ?_); refine Kd.R_make (Kd.int .u32) _ 96 rfl (N := 7) rfl 27 _ _ rfl ji2 rfl rfl Try.underlying27 (.int .u32 0) 4 info96 rfl (by decide) (by omega) 0 (ok := fun _ => True) (okp := fun _ => True) rfl (fun _ hk => hk) trivial (d1_ (by first | (with_reducible assumption) | assumption)) (Nat.le_trans (Nat.mul_le_mul_right _ (d1_ (by first | (with_reducible assumption) | assumption) : ji2.toNat ≤ 70368744177664)) (by omega)) (Below.refl _ _) (Nat.le_refl _) ?_; intro v194 w14 ho15 hb hg_ hnew_; clear hg_ hnew_; (first | rw [← Ny193.out] at ho15 | (simp only [Int.reduceToNat] at ho15; rw [← Ny193.out] at ho15)); have n0_ := a0_ (Kd.R_lower (Kd.R_newM (M := fun k_ => (w.heap.size ≤ k_)) ho15 (below_size (by repeat (first | (with_reducible first | exact HB.out | apply b1_ | apply b2_ | apply b3_ | refine b4_ ?_ GE192.out) | exact HB.out))) (fun k_ h_ => h_)) (below_size (by repeat (first | (with_reducible first | exact HB.out | apply b1_ | apply b2_ | apply b3_ | refine b4_ ?_ GE192.out) | exact HB.out)))); have n1_ := a0_ (blk_below (g := gb192) (o := .cells #[.bool false, .slice none 0 0] 29 (0, 0)) (by (with_reducible repeat (first | refine k1_ ?_ _ | refine k2_ ?_ | refine k3_ ?_ _)); exact BK192.out) hb); have n2_ := a0_ (below_step (by repeat (first | (with_reducible first | exact HB.out | apply b1_ | apply b2_ | apply b3_ | refine b4_ ?_ GE192.out) | exact HB.out)) hb); clear BK192; clear HB; have HO195 := n0_; have BK192 := n1_; have HB := n2_; clear n0_ n1_ n2_; clear hb ho15; have p11 : 0 ≤ ((ji8) : Int) := d1_ (by first | (with_reducible assumption) | assumption); have q11 : ((ji8) : Int) < ((y193.length : Int) : Int) := d1_ (by first | (with_reducible assumption) | assumption); obtain ⟨go11, co11, eo11, gb11, gl11, cl11, HG11⟩ := Kd.R_form HO195.out (by omega); (first | cases eo11 | (injection eo11 with ea_ en_ ec_; (first | subst ea_ | (injection ea_ with ea_; subst ea_)); subst ec_; clear en_)); have GB11 := a0_ gb11; have GG11 := a0_ HG11; clear gb11 gl11 HG11; obtain ⟨hx11_0, hf11_0⟩ := Kd.R_celln 0 HO195.out ((ji8) : Int) p11 q11; replace p11 := eq_true p11; replace q11 := eq_true q11; have n_ := a0_ (Kd.R_mono (ok' := (fun k_ => (w.heap.size ≤ k_))) HO195.out (fun k_ hk => hk.1)); clear HO195; have HO195 := n_; clear n_; obtain ⟨hy16_, hz16_⟩ := Kd.R_celln 0 HO195.out ((ji8) : Int) (d1_ (by first | (with_reducible assumption) | assumption)) (d1_ (by first | (with_reducible assumption) | assumption)); have HP16 := Kd.R_putg HO195.out ((ji8) : Int) ji7) | ((with_reducible refine gate_store (t := 96) (p := 14) rfl ?_); refine store_event (t := 96) (p := 14) (v := ?vo_w17) (w1 := (w14.setCell ⟨go11, ((ji8) : Int).toNat, none⟩ (.int .u32 ji7))) ?hg ?ho ?hn ?hr ?_; (case ho => rfl); (case hg => rfl); (case hn => rfl); (case hr => first | (go_simp; done) | (go_simp; rfl)); intro w17 hw; have hg : w14.grownBy w17 (some go11) := (by rw [hw]; exact HP16.2); have hp_ : Kd.R (Kd.int .u32) 96 w17 w.heap.size (fun k_ => (w.heap.size ≤ k_)) (.slice (some ⟨go11, 0, none⟩) y193.length co11) y196 := (by rw [hw, Ny196.out]; exact HP16.1); clear HP16; have n0_ := a0_ (blk_grown (g := gb192) (o := .cells #[.bool false, .slice none 0 0] 29 (0, 0)) (by (with_reducible repeat (first | refine k1_ ?_ _ | refine k2_ ?_ | refine k3_ ?_ _)); exact BK192.out) hg (Kd.R_ne HO195.out BK192.out (by decide))); have n1_ := a0_ (hp_); have n2_ := a0_ ((by rw [hw]; exact b4_ (HB.out) GB11.out : Below w.heap.size w w17)); clear BK192; clear HO195; clear HB; have BK192 := n0_; have HO195 := n1_; have HB := n2_; clear n0_ n1_ n2_; clear hg hw hp_) | ((with_reducible refine gate_callee (f := 30) rfl ?_); refine goesL_ (some 16) rfl rfl Try.func30 (by kernel_rfl) rfl #[.bool false, .slice (some ⟨go11, 0, none⟩) y196.length co11] rfl (by (try simp only [List.map_toArray, List.map_cons, List.map_nil]); first | done | (rw [show y196.length = y193.length from (Kd.R_reads' HO195.out).1.symm] <;> rfl) | rfl | (simp only [List.length_drop, List.length_take]; rfl)) ?_; (with_reducible refine (spec_wide.calls k false (fun k_ => some k_ = (.slice (some ⟨go11, 0, none⟩) y193.length co11 : Value).ownBlock) _ _ y196 t197 t198 _ ?side1 A12.out).mono ?_); (case side1 => rw [show y196.length = y193.length from (Kd.R_reads' HO195.out).1.symm]; exact Kd.R_V (Kd.R_tight rfl (Kd.R_types (HO195.out) BK192.out (by decide)))); rintro e w18 ⟨v199, rfl, ho0, hb⟩; refine ⟨_, rfl, ?_⟩; have n0_ := a0_ (Kd.R_below (by (with_reducible repeat (first | apply r1_ | apply r2_ | apply r3_)); exact HO195.out) hb); have n1_ := a0_ (Kd.V_lower (v4_ (ok' := fun k_ => (w.heap.size ≤ k_) ∧ k_ ≠ gb192) ho0 (fun k_ hk_ => ⟨Or.elim hk_ (fun hs_ => ((Kd.R_types (HO195.out) BK192.out (by decide)).1 k_ hs_.symm).1) (fun hn_ => (Nat.le_trans (below_size (by repeat (first | (with_reducible first | exact HB.out | apply b1_ | apply b2_ | apply b3_ | refine b4_ ?_ GE192.out) | exact HB.out))) hn_)), Or.elim hk_ (fun hs_ => ((Kd.R_types (HO195.out) BK192.out (by decide)).1 k_ hs_.symm).2) (fun hn_ => (Kd.freshB (g := gb192) (o := .cells #[.bool false, .slice none 0 0] 29 (0, 0)) (by (with_reducible repeat (first | refine k1_ ?_ _ | refine k2_ ?_ | refine k3_ ?_ _)); exact BK192.out) k_ hn_))⟩)) (below_size (by repeat (first | (with_reducible first | exact HB.out | apply b1_ | apply b2_ | apply b3_ | refine b4_ ?_ GE192.out) | exact HB.out)))); have n2_ := a0_ (blk_below (g := gb192) (o := .cells #[.bool false, .slice none 0 0] 29 (0, 0)) (by (with_reducible repeat (first | refine k1_ ?_ _ | refine k2_ ?_ | refine k3_ ?_ _)); exact BK192.out) hb); have n3_ := a0_ (below_step (by repeat (first | (with_reducible first | exact HB.out | apply b1_ | apply b2_ | apply b3_ | refine b4_ ?_ GE192.out) | exact HB.out)) hb); clear HO195; clear BK192; clear HB; have HO195 := n0_; have HO200 := n1_; have BK192 := n2_; have HB := n3_; clear n0_ n1_ n2_ n3_; (try clear hb); (try clear hb2); (try clear hk); (try clear hi); (try clear ho0); have hcz19_0 : w18.cell? ⟨gb192, 0, none⟩ = some (.bool false) := (blk_cell BK192.out 0).trans rfl; have hcz19_1 : w18.cell? ⟨gb192, 1, none⟩ = some (.slice none 0 0) := (blk_cell BK192.out 1).trans rfl; have hfz19_0 := blk_frozen BK192.out 0; have hfz19_1 := blk_frozen BK192.out 1; obtain ⟨Ao20, co20, eo20⟩ := Kd.V_slice HO200.out; subst eo20))
      refine bodyPost_ret (results_cell_row rfl _ _ gb192 29 #[.bool t197, .slice Ao20 t198.length co20] (0, 0) _ rfl (by (with_reducible repeat (first | refine k1_ ?_ _ | refine k2_ ?_ | refine k3_ ?_ _)); refine blk_put (cs := #[.bool t197, .slice none 0 0]) ?_ 1 _ rfl; (with_reducible repeat (first | refine k1_ ?_ _ | refine k2_ ?_ | refine k3_ ?_ _)); refine blk_put (cs := #[.bool false, .slice none 0 0]) ?_ 0 _ rfl; (with_reducible repeat (first | refine k1_ ?_ _ | refine k2_ ?_ | refine k3_ ?_ _)); exact BK192.out) Try.underlying29 rfl (by kernel_rfl)) rfl ?_
      exact ⟨_, by first | rfl | (simp [e1_, e2_] <;> rfl) | (simp only [← hji2, ← hji5, ← hji7, ← hji8]; first | rfl | (simp [e1_, e2_] <;> rfl)) | (simp [*, e1_, e2_] <;> rfl), by (with_reducible repeat (first | apply v1_ | apply v2_ | apply v3_)); exact v4_ (v5_ (p := ⟨gb192, 1, none⟩) (v5_ (p := ⟨gb192, 0, none⟩) (v4_ HO200.out (fun k_ hk => (⟨hk, hk.2⟩ : _ ∧ k_ ≠ gb192))) (fun _ hk => hk.2) (.bool t197)) (fun _ hk => hk.2) (.slice Ao20 t198.length co20)) (fun _ hk => hk.1.1), by repeat (first | (with_reducible first | exact HB.out | apply b1_ | apply b2_ | apply b3_ | refine b4_ ?_ GE192.out) | exact HB.out)⟩
     ·
      rw [if_neg c10] at H
      exact absurd H (by simp)
    ·
     rw [if_neg c9] at H
     exact absurd H (by simp)
   ·
    rw [if_neg c6] at H
    exact absurd H (by simp)
  ·
   rw [if_neg c4] at H
   exact absurd H (by simp)
 ·
  rw [if_neg c3] at H
  exact absurd H (by simp)

/-! ### spec_WideCmp: function 21 -/
mutual
def spec_WideCmp.j0 : Nat → Bool → Bool → List Int → Bool → List Int → Option (Int)
 | 0, _, _, _, _, _ => none
 | k + 1, x5, x281000, x281001, x282000, x282001 => if x5 = true then (some (-1)) else (if x281000 = true then (spec_WideCmp.j1 k false x281000 x281001 x282000 x282001) else (spec_WideCmp.j1 k x282000 x281000 x281001 x282000 x282001))
def spec_WideCmp.j1 : Nat → Bool → Bool → List Int → Bool → List Int → Option (Int)
 | 0, _, _, _, _, _ => none
 | k + 1, x13, x281000, x281001, x282000, x282001 => if x13 = true then (some 1) else (if x281000 = true then ((spec_magCmp.f k x281001 x282001).bind fun t282 => (some (wrap64 (-t282)))) else ((spec_magCmp.f k x281001 x282001).bind fun t283 => (some t283)))
end
def spec_WideCmp.f (k : Nat) (a0_0 : Bool) (l0_1 : List Int) (a1_0 : Bool) (l1_1 : List Int) : Option (Int) := if a0_0 = true then (spec_WideCmp.j0 k (!a1_0) a0_0 l0_1 a1_0 l1_1) else (spec_WideCmp.j0 k false a0_0 l0_1 a1_0 l1_1)
set_option maxHeartbeats 8000000 in
set_option maxRecDepth 100000 in
theorem spec_WideCmp.calls (k : Nat) (a0_0 : Bool) (A0_1 : Option Addr) (c0_1 : Nat) (l0_1 : List Int) (a1_0 : Bool) (A1_1 : Option Addr) (c1_1 : Nat) (l1_1 : List Int) (r : Int) (w : World) (hr0_1 : Kd.C (Kd.int .u32) w A0_1 l0_1.length l0_1) (hc0_1 : l0_1.length ≤ c0_1) (hr1_1 : Kd.C (Kd.int .u32) w A1_1 l1_1.length l1_1) (hc1_1 : l1_1.length ≤ c1_1) (h : spec_WideCmp.f k a0_0 l0_1 a1_0 l1_1 = some r) :
  Calls Try.prog 21 #[.agg #[.bool a0_0, .slice A0_1 l0_1.length c0_1], .agg #[.bool a1_0, .slice A1_1 l1_1.length c1_1]] w fun e w' => e = .returned (.int .i64 r) ∧ Below w.heap.size w w' := by
 have hu29 := Try.underlying29
 have HR0_1 := a0_ hr0_1
 have HC0_1 := a0_ hc0_1
 clear hr0_1 hc0_1
 have HR1_1 := a0_ hr1_1
 have HC1_1 := a0_ hc1_1
 clear hr1_1 hc1_1
 have HB := a0_ (Below.refl w.heap.size w)
 have H : (if a0_0 = true then (spec_WideCmp.j0 k (!a1_0) a0_0 l0_1 a1_0 l1_1) else (spec_WideCmp.j0 k false a0_0 l0_1 a1_0 l1_1)) = some r := h
 clear h
 have HC3 := a0_ H
 clear H
 go_enter Try.func21, Try.ntmps21
 go_upto_region 1 with (first | ((with_reducible refine gate_dst (N := 2) rfl ?_); refine box_event ?hg (N := 2) ?hd (cs := #[.bool a0_0, .slice A0_1 l0_1.length c0_1]) (t := 29) ?hr ?_; (case hd => rfl); (case hg => rfl); (case hr => first | (go_simp; done) | (go_simp; rfl)); intro gb280 hg w4 hbox hb; have n0_ := a0_ (below_step (by repeat (first | (with_reducible first | exact HB.out | apply b1_ | apply b2_ | apply b3_) | exact HB.out)) hb); have n1_ := a0_ (hbox); have n2_ := a0_ ((by rw [hg]; exact (below_size (by repeat (first | (with_reducible first | exact HB.out | apply b1_ | apply b2_ | apply b3_) | exact HB.out))) : w.heap.size ≤ gb280)); have n3_ := a0_ ((by rw [hg]; exact (below_size (by repeat (first | (with_reducible first | exact HB.out | apply b1_ | apply b2_ | apply b3_) | exact HB.out))) : w.heap.size ≤ gb280)); clear HB; have HB := n0_; have BK280 := n1_; have GW280 := n2_; have GE280 := n3_; clear n0_ n1_ n2_ n3_; clear hb hbox hg) | ((with_reducible refine gate_dst (N := 3) rfl ?_); refine box_event ?hg (N := 3) ?hd (cs := #[.bool a1_0, .slice A1_1 l1_1.length c1_1]) (t := 29) ?hr ?_; (case hd => rfl); (case hg => rfl); (case hr => first | (go_simp; done) | (go_simp; rfl)); intro gb281 hg w5 hbox hb; have n0_ := a0_ (blk_below (g := gb280) (o := .cells #[.bool a0_0, .slice A0_1 l0_1.length c0_1] 29 (0, 0)) (by (with_reducible repeat (first | refine k1_ ?_ _ | refine k2_ ?_ | refine k3_ ?_ _)); exact BK280.out) hb); have n1_ := a0_ (below_step (by repeat (first | (with_reducible first | exact HB.out | apply b1_ | apply b2_ | apply b3_ | refine b4_ ?_ GE280.out) | exact HB.out)) hb); have n2_ := a0_ (hbox); have n3_ := a0_ ((by rw [hg]; exact (below_size (by repeat (first | (with_reducible first | exact HB.out | apply b1_ | apply b2_ | apply b3_ | refine b4_ ?_ GE280.out) | exact HB.out))) : w.heap.size ≤ gb281)); have n4_ := a0_ ((by rw [hg]; exact (below_size (by repeat (first | (with_reducible first | exact HB.out | apply b1_ | apply b2_ | apply b3_ | refine b4_ ?_ GE280.out) | exact HB.out))) : w.heap.size ≤ gb281)); have n5_ := a0_ ((by rw [hg]; exact Nat.ne_of_lt (blk_lt (g := gb280) (o := .cells #[.bool a0_0, .slice A0_1 l0_1.length c0_1] 29 (0, 0)) (by (with_reducible repeat (first | refine k1_ ?_ _ | refine k2_ ?_ | refine k3_ ?_ _)); exact BK280.out)) : gb280 ≠ gb281)); have n6_ := a0_ ((by rw [hg]; exact Nat.ne_of_gt (blk_lt (g := gb280) (o := .cells #[.bool a0_0, .slice A0_1 l0_1.length c0_1] 29 (0, 0)) (by (with_reducible repeat (first | refine k1_ ?_ _ | refine k2_ ?_ | refine k3_ ?_ _)); exact BK280.out)) : gb281 ≠ gb280)); clear BK280; clear HB; have BK280 := n0_; have HB := n1_; have BK281 := n2_; have GW281 := n3_; have GE281 := n4_; have NB280_281 := n5_; have NB281_280 := n6_; clear n0_ n1_ n2_ n3_ n4_ n5_ n6_; clear hb hbox hg))
 (try simp only [Act.put, s1_, s2_, s3_])
 go_cut [5] (fun v5 wc => ∃ (kq : Nat) (x5_2 : Bool), v5 = .bool x5_2 ∧ Aside0 (spec_WideCmp.j0 kq x5_2 a0_0 l0_1 a1_0 l1_1 = some r) ∧ Aside0 (kq ≤ k) ∧ Aside0 (wc.heap[gb280]? = some (.cells #[.bool a0_0, (.slice A0_1 l0_1.length c0_1)] 29 (0, 0))) ∧ Aside0 (wc.heap[gb281]? = some (.cells #[.bool a1_0, (.slice A1_1 l1_1.length c1_1)] 29 (0, 0))) ∧ Aside0 (Below w.heap.size w wc))
 case first =>
  have H := HC3.out
  clear HC3
  by_cases c6 : a0_0 = true
  ·
   subst c6
   have H1 : (spec_WideCmp.j0 k (!a1_0) true l0_1 a1_0 l1_1) = some r := by rw [if_pos rfl] at H; exact H
   clear H
   have H := H1
   clear H1
   have H' := a0_ H
   clear H
   have hnb7 := NB280_281.out
   have hnc7 := NB281_280.out
   have hcz8_0 : w5.cell? ⟨gb280, 0, none⟩ = some (.bool true) := (blk_cell BK280.out 0).trans rfl
   have hcz8_1 : w5.cell? ⟨gb280, 1, none⟩ = some (.slice A0_1 l0_1.length c0_1) := (blk_cell BK280.out 1).trans rfl
   have hfz8_0 := blk_frozen BK280.out 0
   have hfz8_1 := blk_frozen BK280.out 1
   have hcz9_0 : w5.cell? ⟨gb281, 0, none⟩ = some (.bool a1_0) := (blk_cell BK281.out 0).trans rfl
   have hcz9_1 : w5.cell? ⟨gb281, 1, none⟩ = some (.slice A1_1 l1_1.length c1_1) := (blk_cell BK281.out 1).trans rfl
   have hfz9_0 := blk_frozen BK281.out 0
   have hfz9_1 := blk_frozen BK281.out 1
   go_wp2
   go_meet
   case rel => exact ⟨_, (!a1_0), (by first | rfl | (simp; done) | (simp [*]; done)), H', ⟨by first | omega | exact Nat.le_refl _⟩, ⟨by (with_reducible repeat (first | refine k1_ ?_ _ | refine k2_ ?_ | refine k3_ ?_ _)); exact BK280.out⟩, ⟨by (with_reducible repeat (first | refine k1_ ?_ _ | refine k2_ ?_ | refine k3_ ?_ _)); exact BK281.out⟩, ⟨by repeat (first | (with_reducible first | exact HB.out | apply b1_ | apply b2_ | apply b3_ | refine b4_ ?_ GE280.out | refine b4_ ?_ GE281.out) | exact HB.out)⟩⟩
  ·
   replace c6 := Bool.eq_false_iff.mpr c6
   subst c6
   have H1 : (spec_WideCmp.j0 k false false l0_1 a1_0 l1_1) = some r := by rw [if_neg (show ¬ (false = true) by decide)] at H; exact H
   clear H
   have H := H1
   clear H1
   have H' := a0_ H
   clear H
   have hnb10 := NB280_281.out
   have hnc10 := NB281_280.out
   have hcz11_0 : w5.cell? ⟨gb280, 0, none⟩ = some (.bool false) := (blk_cell BK280.out 0).trans rfl
   have hcz11_1 : w5.cell? ⟨gb280, 1, none⟩ = some (.slice A0_1 l0_1.length c0_1) := (blk_cell BK280.out 1).trans rfl
   have hfz11_0 := blk_frozen BK280.out 0
   have hfz11_1 := blk_frozen BK280.out 1
   go_wp2
   go_meet
   case rel => exact ⟨_, (false), (by first | rfl | (simp; done) | (simp [*]; done)), H', ⟨by first | omega | exact Nat.le_refl _⟩, ⟨by (with_reducible repeat (first | refine k1_ ?_ _ | refine k2_ ?_ | refine k3_ ?_ _)); exact BK280.out⟩, ⟨by (with_reducible repeat (first | refine k1_ ?_ _ | refine k2_ ?_ | refine k3_ ?_ _)); exact BK281.out⟩, ⟨by repeat (first | (with_reducible first | exact HB.out | apply b1_ | apply b2_ | apply b3_ | refine b4_ ?_ GE280.out | refine b4_ ?_ GE281.out) | exact HB.out)⟩⟩
 case rest =>
  clear HC3
  try clear c1
  try clear c2
  try clear p2
  try clear c6
  try clear c7
  try clear c10
  try clear hcz11_0
  try clear hcz11_1
  try clear hcz8_0
  try clear hcz8_1
  try clear hcz9_0
  try clear hcz9_1
  try clear hfz11_0
  try clear hfz11_1
  try clear hfz8_0
  try clear hfz8_1
  try clear hfz9_0
  try clear hfz9_1
  obtain ⟨kq, x5_2, rfl, HA, HJ2, BK280, BK281, HB⟩ := hcut
  cases kq with
  | zero => exact absurd HA.out (by simp [spec_WideCmp.j0])
  | succ kj2 =>
   have H := HA.out
   clear HA
   simp only [spec_WideCmp.j0] at H
   by_cases c12 : x5_2 = true
   ·
    subst c12
    have H1 : (some (-1)) = some r := by rw [if_pos rfl] at H; exact H
    clear H
    have H := H1
    clear H1
    obtain rfl := o1_ H
    go_wp2
    go_ret
    exact ⟨by first | rfl | (simp [e1_, e2_] <;> rfl) | (simp [*, e1_, e2_] <;> rfl), by repeat (first | (with_reducible first | exact HB.out | apply b1_ | apply b2_ | apply b3_ | refine b4_ ?_ GE280.out | refine b4_ ?_ GE281.out) | exact HB.out)⟩
   ·
    replace c12 := Bool.eq_false_iff.mpr c12
    subst c12
    have H1 : (if a0_0 = true then (spec_WideCmp.j1 kj2 false a0_0 l0_1 a1_0 l1_1) else (spec_WideCmp.j1 kj2 a1_0 a0_0 l0_1 a1_0 l1_1)) = some r := by rw [if_neg (show ¬ (false = true) by decide)] at H; exact H
    clear H
    have H := H1
    clear H1
    have HC13 := a0_ H
    clear H
    go_upto_region 3 with (fail)
    go_cut [13] (fun v13 wc => ∃ (kq : Nat) (x13_12 : Bool), v13 = .bool x13_12 ∧ Aside0 (spec_WideCmp.j1 kq x13_12 a0_0 l0_1 a1_0 l1_1 = some r) ∧ Aside0 (kq ≤ kj2) ∧ Aside0 (wc.heap[gb280]? = some (.cells #[.bool a0_0, (.slice A0_1 l0_1.length c0_1)] 29 (0, 0))) ∧ Aside0 (wc.heap[gb281]? = some (.cells #[.bool a1_0, (.slice A1_1 l1_1.length c1_1)] 29 (0, 0))) ∧ Aside0 (Below w.heap.size w wc))
    case first =>
     have H := HC13.out
     clear HC13
     by_cases c14 : a0_0 = true
     ·
      subst c14
      have H1 : (spec_WideCmp.j1 kj2 false true l0_1 a1_0 l1_1) = some r := by rw [if_pos rfl] at H; exact H
      clear H
      have H := H1
      clear H1
      have H' := a0_ H
      clear H
      have hnb15 := NB280_281.out
      have hnc15 := NB281_280.out
      have hcz16_0 : wc.cell? ⟨gb280, 0, none⟩ = some (.bool true) := (blk_cell BK280.out 0).trans rfl
      have hcz16_1 : wc.cell? ⟨gb280, 1, none⟩ = some (.slice A0_1 l0_1.length c0_1) := (blk_cell BK280.out 1).trans rfl
      have hfz16_0 := blk_frozen BK280.out 0
      have hfz16_1 := blk_frozen BK280.out 1
      go_wp2
      go_meet
      case rel => exact ⟨_, (false), (by first | rfl | (simp; done) | (simp [*]; done)), H', ⟨by have := HJ2.out; first | omega | exact Nat.le_refl _⟩, ⟨by (with_reducible repeat (first | refine k1_ ?_ _ | refine k2_ ?_ | refine k3_ ?_ _)); exact BK280.out⟩, ⟨by (with_reducible repeat (first | refine k1_ ?_ _ | refine k2_ ?_ | refine k3_ ?_ _)); exact BK281.out⟩, ⟨by repeat (first | (with_reducible first | exact HB.out | apply b1_ | apply b2_ | apply b3_ | refine b4_ ?_ GE280.out | refine b4_ ?_ GE281.out) | exact HB.out)⟩⟩
     ·
      replace c14 := Bool.eq_false_iff.mpr c14
      subst c14
      have H1 : (spec_WideCmp.j1 kj2 a1_0 false l0_1 a1_0 l1_1) = some r := by rw [if_neg (show ¬ (false = true) by decide)] at H; exact H
      clear H
      have H := H1
      clear H1
      have H' := a0_ H
      clear H
      have hnb17 := NB280_281.out
      have hnc17 := NB281_280.out
      have hcz18_0 : wc.cell? ⟨gb280, 0, none⟩ = some (.bool false) := (blk_cell BK280.out 0).trans rfl
      have hcz18_1 : wc.cell? ⟨gb280, 1, none⟩ = some (.slice A0_1 l0_1.length c0_1) := (blk_cell BK280.out 1).trans rfl
      have hfz18_0 := blk_frozen BK280.out 0
      have hfz18_1 := blk_frozen BK280.out 1
      have hcz19_0 : wc.cell? ⟨gb281, 0, none⟩ = some (.bool a1_0) := (blk_cell BK281.out 0).trans rfl
      have hcz19_1 : wc.cell? ⟨gb281, 1, none⟩ = some (.slice A1_1 l1_1.length c1_1) := (blk_cell BK281.out 1).trans rfl
      have hfz19_0 := blk_frozen BK281.out 0
      have hfz19_1 := blk_frozen BK281.out 1
      go_wp2
      go_meet
      case rel => exact ⟨_, (a1_0), (by first | rfl | (simp; done) | (simp [*]; done)), H', ⟨by have := HJ2.out; first | omega | exact Nat.le_refl _⟩, ⟨by (with_reducible repeat (first | refine k1_ ?_ _ | refine k2_ ?_ | refine k3_ ?_ _)); exact BK280.out⟩, ⟨by (with_reducible repeat (first | refine k1_ ?_ _ | refine k2_ ?_ | refine k3_ ?_ _)); exact BK281.out⟩, ⟨by repeat (first | (with_reducible first | exact HB.out | apply b1_ | apply b2_ | apply b3_ | refine b4_ ?_ GE280.out | refine b4_ ?_ GE281.out) | exact HB.out)⟩⟩
    case rest =>
     clear HC13
     try clear c1
     try clear c2
     try clear p2
     try clear c6
     try clear c7
     try clear c10
     try clear c12
     try clear c14
     try clear c15
     try clear c17
     try clear hcz11_0
     try clear hcz11_1
     try clear hcz16_0
     try clear hcz16_1
     try clear hcz18_0
     try clear hcz18_1
     try clear hcz19_0
     try clear hcz19_1
     try clear hcz8_0
     try clear hcz8_1
     try clear hcz9_0
     try clear hcz9_1
     try clear hfz11_0
     try clear hfz11_1
     try clear hfz16_0
     try clear hfz16_1
     try clear hfz18_0
     try clear hfz18_1
     try clear hfz19_0
     try clear hfz19_1
     try clear hfz8_0
     try clear hfz8_1
     try clear hfz9_0
     try clear hfz9_1
     try clear p2
     obtain ⟨kq, x13_12, rfl, HA, HJ12, BK280, BK281, HB⟩ := hcut
     cases kq with
     | zero => exact absurd HA.out (by simp [spec_WideCmp.j1])
     | succ kj12 =>
      have H := HA.out
      clear HA
      simp only [spec_WideCmp.j1] at H
      by_cases c20 : x13_12 = true
      ·
       subst c20
       have H1 : (some 1) = some r := by rw [if_pos rfl] at H; exact H
       clear H
       have H := H1
       clear H1
       obtain rfl := o1_ H
       go_wp2
       go_ret
       exact ⟨by first | rfl | (simp [e1_, e2_] <;> rfl) | (simp [*, e1_, e2_] <;> rfl), by repeat (first | (with_reducible first | exact HB.out | apply b1_ | apply b2_ | apply b3_ | refine b4_ ?_ GE280.out | refine b4_ ?_ GE281.out) | exact HB.out)⟩
      ·
       replace c20 := Bool.eq_false_iff.mpr c20
       subst c20
       have H1 : (if a0_0 = true then ((spec_magCmp.f kj12 l0_1 l1_1).bind fun t282 => (some (wrap64 (-t282)))) else ((spec_magCmp.f kj12 l0_1 l1_1).bind fun t283 => (some t283))) = some r := by rw [if_neg (show ¬ (false = true) by decide)] at H; exact H
       clear H
       have H := H1
       clear H1
       by_cases c21 : a0_0 = true
       ·
        subst c21
        have H1 : ((spec_magCmp.f kj12 l0_1 l1_1).bind fun t282 => (some (wrap64 (-t282)))) = some r := by rw [if_pos rfl] at H; exact H
        clear H
        have H := H1
        clear H1
        replace H := Option.bind_eq_some_iff.mp H
        obtain ⟨t282, A220, H⟩ := H
        replace H : (some (wrap64 (-t282))) = some r := H
        have A22 := a0_ A220
        clear A220
        obtain rfl := o1_ H
        have hnb23 := NB280_281.out
        have hnc23 := NB281_280.out
        have hcz24_0 : wc.cell? ⟨gb280, 0, none⟩ = some (.bool true) := (blk_cell BK280.out 0).trans rfl
        have hcz24_1 : wc.cell? ⟨gb280, 1, none⟩ = some (.slice A0_1 l0_1.length c0_1) := (blk_cell BK280.out 1).trans rfl
        have hfz24_0 := blk_frozen BK280.out 0
        have hfz24_1 := blk_frozen BK280.out 1
        have hcz25_0 : wc.cell? ⟨gb281, 0, none⟩ = some (.bool a1_0) := (blk_cell BK281.out 0).trans rfl
        have hcz25_1 : wc.cell? ⟨gb281, 1, none⟩ = some (.slice A1_1 l1_1.length c1_1) := (blk_cell BK281.out 1).trans rfl
        have hfz25_0 := blk_frozen BK281.out 0
        have hfz25_1 := blk_frozen BK281.out 1
        go_wp2_with (first | ((with_reducible refine gate_callee (f := 39) rfl ?_); refine goesL_ (some 28) rfl rfl Try.func39 (by kernel_rfl) rfl #[.slice A0_1 l0_1.length c0_1, .slice A1_1 l1_1.length c1_1] rfl (by (try simp only [List.map_toArray, List.map_cons, List.map_nil]); first | done | rfl | (simp only [List.length_drop, List.length_take]; rfl)) ?_; (with_reducible refine (spec_magCmp.calls kj12 _ _ l0_1 _ _ l1_1 t282 _ ?side1 ?side2 ?side3 ?side4 A22.out).mono ?_); (case side1 => repeat (first | exact (Kd.C_below HR0_1.out HB.out) | (with_reducible refine Kd.C_alloc ?_ _) | (with_reducible refine Kd.C_drewN ?_ _) | (with_reducible refine Kd.C_drew ?_))); (case side2 => exact HC0_1.out); (case side3 => repeat (first | exact (Kd.C_below HR1_1.out HB.out) | (with_reducible refine Kd.C_alloc ?_ _) | (with_reducible refine Kd.C_drewN ?_ _) | (with_reducible refine Kd.C_drew ?_))); (case side4 => exact HC1_1.out); rintro e w' ⟨rfl, ⟨nd, rfl⟩⟩; refine ⟨_, rfl, ?_⟩))
        go_ret
        exact ⟨by first | rfl | (simp [e1_, e2_] <;> rfl) | (simp [*, e1_, e2_] <;> rfl), by repeat (first | (with_reducible first | exact HB.out | apply b1_ | apply b2_ | apply b3_ | refine b4_ ?_ GE280.out | refine b4_ ?_ GE281.out) | exact HB.out)⟩
       ·
        replace c21 := Bool.eq_false_iff.mpr c21
        subst c21
        have H1 : ((spec_magCmp.f kj12 l0_1 l1_1).bind fun t283 => (some t283)) = some r := by rw [if_neg (show ¬ (false = true) by decide)] at H; exact H
        clear H
        have H := H1
        clear H1
        replace H := Option.bind_eq_some_iff.mp H
        obtain ⟨t283, A260, H⟩ := H
        replace H : (some t283) = some r := H
        have A26 := a0_ A260
        clear A260
        obtain rfl := o1_ H
        have hnb27 := NB280_281.out
        have hnc27 := NB281_280.out
        have hcz28_0 : wc.cell? ⟨gb280, 0, none⟩ = some (.bool false) := (blk_cell BK280.out 0).trans rfl
        have hcz28_1 : wc.cell? ⟨gb280, 1, none⟩ = some (.slice A0_1 l0_1.length c0_1) := (blk_cell BK280.out 1).trans rfl
        have hfz28_0 := blk_frozen BK280.out 0
        have hfz28_1 := blk_frozen BK280.out 1
        have hcz29_0 : wc.cell? ⟨gb281, 0, none⟩ = some (.bool a1_0) := (blk_cell BK281.out 0).trans rfl
        have hcz29_1 : wc.cell? ⟨gb281, 1, none⟩ = some (.slice A1_1 l1_1.length c1_1) := (blk_cell BK281.out 1).trans rfl
        have hfz29_0 := blk_frozen BK281.out 0
        have hfz29_1 := blk_frozen BK281.out 1
        go_wp2_with (first | ((with_reducible refine gate_callee (f := 39) rfl ?_); refine goesL_ (some 34) rfl rfl Try.func39 (by kernel_rfl) rfl #[.slice A0_1 l0_1.length c0_1, .slice A1_1 l1_1.length c1_1] rfl (by (try simp only [List.map_toArray, List.map_cons, List.map_nil]); first | done | rfl | (simp only [List.length_drop, List.length_take]; rfl)) ?_; (with_reducible refine (spec_magCmp.calls kj12 _ _ l0_1 _ _ l1_1 t283 _ ?side1 ?side2 ?side3 ?side4 A26.out).mono ?_); (case side1 => repeat (first | exact (Kd.C_below HR0_1.out HB.out) | (with_reducible refine Kd.C_alloc ?_ _) | (with_reducible refine Kd.C_drewN ?_ _) | (with_reducible refine Kd.C_drew ?_))); (case side2 => exact HC0_1.out); (case side3 => repeat (first | exact (Kd.C_below HR1_1.out HB.out) | (with_reducible refine Kd.C_alloc ?_ _) | (with_reducible refine Kd.C_drewN ?_ _) | (with_reducible refine Kd.C_drew ?_))); (case side4 => exact HC1_1.out); rintro e w' ⟨rfl, ⟨nd, rfl⟩⟩; refine ⟨_, rfl, ?_⟩))
        go_ret
        exact ⟨by first | rfl | (simp [e1_, e2_] <;> rfl) | (simp [*, e1_, e2_] <;> rfl), by repeat (first | (with_reducible first | exact HB.out | apply b1_ | apply b2_ | apply b3_ | refine b4_ ?_ GE280.out | refine b4_ ?_ GE281.out) | exact HB.out)⟩

/-! ### spec_Wide_Negated: function 16 -/
def spec_Wide_Negated.f (k : Nat) (a0_0 : Bool) (l0_1 : List Int) : Option (Bool × List Int) := (spec_wide.f k (!a0_0) l0_1).bind fun bt118 => (some (bt118.1, bt118.2))
set_option maxHeartbeats 8000000 in
set_option maxRecDepth 100000 in
theorem spec_Wide_Negated.calls (k : Nat) (a0_0 : Bool) (P0_1_ : Nat → Prop) (A0_1 : Option Addr) (c0_1 : Nat) (l0_1 : List Int) (r1 : Bool) (r2 : List Int) (w : World) (hs0_1 : Kd.V (Kd.int .u32) 96 w w.heap.size (fun k_ => P0_1_ k_) (.slice A0_1 l0_1.length c0_1) l0_1) (h : spec_Wide_Negated.f k a0_0 l0_1 = some (r1, r2)) :
  Calls Try.prog 16 #[.agg #[.bool a0_0, .slice A0_1 l0_1.length c0_1]] w fun e w' => ∃ v1_ : Value, e = .returned (.agg #[.bool r1, v1_]) ∧ Kd.V (Kd.int .u32) 96 w' w.heap.size (fun k_ => (P0_1_ k_ ∨ w.heap.size ≤ k_)) v1_ r2 ∧ Below w.heap.size w w' := by
 have hu29 := Try.underlying29
 have HO0_1 := a0_ (show Kd.V (Kd.int .u32) 96 w w.heap.size (fun k_ => (P0_1_ k_ ∨ w.heap.size ≤ k_)) (.slice A0_1 l0_1.length c0_1) l0_1 from v4_ hs0_1 (fun k_ hk => .inl hk))
 have HB := a0_ (Below.refl w.heap.size w)
 have H : ((spec_wide.f k (!a0_0) l0_1).bind fun bt118 => (some (bt118.1, bt118.2))) = some (r1, r2) := h
 clear h
 replace H := Option.bind_eq_some_iff.mp H
 obtain ⟨⟨t118, t119⟩, A20, H⟩ := H
 replace H : (some (t118, t119)) = some (r1, r2) := H
 have A2 := a0_ A20
 clear A20
 simp only [Option.some.injEq, Prod.mk.injEq] at H
 obtain ⟨rfl, rfl⟩ := H
 go_enter Try.func16, Try.ntmps16
 go_wp2_with (first | ((with_reducible refine gate_dst (N := 1) rfl ?_); refine box_event ?hg (N := 1) ?hd (cs := #[.bool a0_0, .slice A0_1 l0_1.length c0_1]) (t := 29) ?hr ?_; (case hd => rfl); (case hg => rfl); (case hr => first | (go_simp; done) | (go_simp; rfl)); intro gb116 hg w3 hbox hb; have n0_ := a0_ (Kd.V_below (Kd.V_elderB (by (with_reducible repeat (first | apply v1_ | apply v2_ | apply v3_)); exact HO0_1.out) gb116 (Nat.le_of_eq hg.symm)) hb); have n1_ := a0_ (below_step (by repeat (first | (with_reducible first | exact HB.out | apply b1_ | apply b2_ | apply b3_) | exact HB.out)) hb); have n2_ := a0_ (hbox); have n3_ := a0_ ((by rw [hg]; exact (below_size (by repeat (first | (with_reducible first | exact HB.out | apply b1_ | apply b2_ | apply b3_) | exact HB.out))) : w.heap.size ≤ gb116)); have n4_ := a0_ ((by rw [hg]; exact (below_size (by repeat (first | (with_reducible first | exact HB.out | apply b1_ | apply b2_ | apply b3_) | exact HB.out))) : w.heap.size ≤ gb116)); clear HO0_1; clear HB; have HO0_1 := n0_; have HB := n1_; have BK116 := n2_; have GW116 := n3_; have GE116 := n4_; clear n0_ n1_ n2_ n3_ n4_; clear hb hbox hg) | ((with_reducible refine gate_dst (N := 2) rfl ?_); refine box_event ?hg (N := 2) ?hd (cs := #[.bool false, .slice none 0 0]) (t := 29) ?hr ?_; (case hd => rfl); (case hg => rfl); (case hr => first | (go_simp; done) | (go_simp; rfl)); intro gb117 hg w4 hbox hb; have n0_ := a0_ (Kd.V_below (Kd.V_elderB (by (with_reducible repeat (first | apply v1_ | apply v2_ | apply v3_)); exact HO0_1.out) gb117 (Nat.le_of_eq hg.symm)) hb); have n1_ := a0_ (blk_below (g := gb116) (o := .cells #[.bool a0_0, .slice A0_1 l0_1.length c0_1] 29 (0, 0)) (by (with_reducible repeat (first | refine k1_ ?_ _ | refine k2_ ?_ | refine k3_ ?_ _)); exact BK116.out) hb); have n2_ := a0_ (below_step (by repeat (first | (with_reducible first | exact HB.out | apply b1_ | apply b2_ | apply b3_ | refine b4_ ?_ GE116.out) | exact HB.out)) hb); have n3_ := a0_ (hbox); have n4_ := a0_ ((by rw [hg]; exact (below_size (by repeat (first | (with_reducible first | exact HB.out | apply b1_ | apply b2_ | apply b3_ | refine b4_ ?_ GE116.out) | exact HB.out))) : w.heap.size ≤ gb117)); have n5_ := a0_ ((by rw [hg]; exact (below_size (by repeat (first | (with_reducible first | exact HB.out | apply b1_ | apply b2_ | apply b3_ | refine b4_ ?_ GE116.out) | exact HB.out))) : w.heap.size ≤ gb117)); have n6_ := a0_ ((by rw [hg]; exact Nat.ne_of_lt (blk_lt (g := gb116) (o := .cells #[.bool a0_0, .slice A0_1 l0_1.length c0_1] 29 (0, 0)) (by (with_reducible repeat (first | refine k1_ ?_ _ | refine k2_ ?_ | refine k3_ ?_ _)); exact BK116.out)) : gb116 ≠ gb117)); have n7_ := a0_ ((by rw [hg]; exact Nat.ne_of_gt (blk_lt (g := gb116) (o := .cells #[.bool a0_0, .slice A0_1 l0_1.length c0_1] 29 (0, 0)) (by (with_reducible repeat (first | refine k1_ ?_ _ | refine k2_ ?_ | refine k3_ ?_ _)); exact BK116.out)) : gb117 ≠ gb116)); clear HO0_1; clear BK116; clear HB; have HO0_1 := n0_; have BK116 := n1_; have HB := n2_; have BK117 := n3_; have GW117 := n4_; have GE117 := n5_; have NB116_117 := n6_; have NB117_116 := n7_; clear n0_ n1_ n2_ n3_ n4_ n5_ n6_ n7_; clear hb hbox hg; have hnb5 := NB116_117.out; have hnc5 := NB117_116.out; have hcz6_0 : w4.cell? ⟨gb116, 0, none⟩ = some (.bool a0_0) := (blk_cell BK116.out 0).trans rfl; have hcz6_1 : w4.cell? ⟨gb116, 1, none⟩ = some (.slice A0_1 l0_1.length c0_1) := (blk_cell BK116.out 1).trans rfl; have hfz6_0 := blk_frozen BK116.out 0; have hfz6_1 := blk_frozen BK116.out 1) | ((with_reducible refine gate_callee (f := 30) rfl ?_); refine goesL_ (some 8) rfl rfl Try.func30 (by kernel_rfl) rfl #[.bool (!a0_0), .slice A0_1 l0_1.length c0_1] rfl (by (try simp only [List.map_toArray, List.map_cons, List.map_nil]); first | done | rfl | (simp only [List.length_drop, List.length_take]; rfl)) ?_; (with_reducible refine (spec_wide.calls k (!a0_0) (fun k_ => (((P0_1_ k_ ∨ w.heap.size ≤ k_) ∧ k_ ≠ gb116) ∧ k_ ≠ gb117)) _ _ l0_1 t118 t119 _ ?side1 A2.out).mono ?_); (case side1 => exact HO0_1.out); rintro e w7 ⟨v120, rfl, ho0, hb⟩; refine ⟨_, rfl, ?_⟩; have n0_ := a0_ (Kd.V_below (by (with_reducible repeat (first | apply v1_ | apply v2_ | apply v3_)); exact HO0_1.out) hb); have n1_ := a0_ (Kd.V_lower (v4_ (ok' := fun k_ => (P0_1_ k_ ∨ w.heap.size ≤ k_) ∧ k_ ≠ gb116 ∧ k_ ≠ gb117) ho0 (fun k_ hk_ => ⟨Or.elim hk_ (fun hs_ => hs_.1.1) (fun hn_ => (.inr (Nat.le_trans (below_size (by repeat (first | (with_reducible first | exact HB.out | apply b1_ | apply b2_ | apply b3_ | refine b4_ ?_ GE116.out | refine b4_ ?_ GE117.out) | exact HB.out))) hn_))), Or.elim hk_ (fun hs_ => hs_.1.2) (fun hn_ => (Kd.freshB (g := gb116) (o := .cells #[.bool a0_0, .slice A0_1 l0_1.length c0_1] 29 (0, 0)) (by (with_reducible repeat (first | refine k1_ ?_ _ | refine k2_ ?_ | refine k3_ ?_ _)); exact BK116.out) k_ hn_)), Or.elim hk_ (fun hs_ => hs_.2) (fun hn_ => (Kd.freshB (g := gb117) (o := .cells #[.bool false, .slice none 0 0] 29 (0, 0)) (by (with_reducible repeat (first | refine k1_ ?_ _ | refine k2_ ?_ | refine k3_ ?_ _)); exact BK117.out) k_ hn_))⟩)) (below_size (by repeat (first | (with_reducible first | exact HB.out | apply b1_ | apply b2_ | apply b3_ | refine b4_ ?_ GE116.out | refine b4_ ?_ GE117.out) | exact HB.out)))); have n2_ := a0_ (blk_below (g := gb116) (o := .cells #[.bool a0_0, .slice A0_1 l0_1.length c0_1] 29 (0, 0)) (by (with_reducible repeat (first | refine k1_ ?_ _ | refine k2_ ?_ | refine k3_ ?_ _)); exact BK116.out) hb); have n3_ := a0_ (blk_below (g := gb117) (o := .cells #[.bool false, .slice none 0 0] 29 (0, 0)) (by (with_reducible repeat (first | refine k1_ ?_ _ | refine k2_ ?_ | refine k3_ ?_ _)); exact BK117.out) hb); have n4_ := a0_ (below_step (by repeat (first | (with_reducible first | exact HB.out | apply b1_ | apply b2_ | apply b3_ | refine b4_ ?_ GE116.out | refine b4_ ?_ GE117.out) | exact HB.out)) hb); clear HO0_1; clear BK116; clear BK117; clear HB; have HO0_1 := n0_; have HO121 := n1_; have BK116 := n2_; have BK117 := n3_; have HB := n4_; clear n0_ n1_ n2_ n3_ n4_; (try clear hb); (try clear hb2); (try clear hk); (try clear hi); (try clear ho0); have hcz8_0 : w7.cell? ⟨gb117, 0, none⟩ = some (.bool false) := (blk_cell BK117.out 0).trans rfl; have hcz8_1 : w7.cell? ⟨gb117, 1, none⟩ = some (.slice none 0 0) := (blk_cell BK117.out 1).trans rfl; have hfz8_0 := blk_frozen BK117.out 0; have hfz8_1 := blk_frozen BK117.out 1; obtain ⟨Ao9, co9, eo9⟩ := Kd.V_slice HO121.out; subst eo9))
 refine bodyPost_ret (results_cell_row rfl _ _ gb117 29 #[.bool t118, .slice Ao9 t119.length co9] (0, 0) _ rfl (by (with_reducible repeat (first | refine k1_ ?_ _ | refine k2_ ?_ | refine k3_ ?_ _)); refine blk_put (cs := #[.bool t118, .slice none 0 0]) ?_ 1 _ rfl; (with_reducible repeat (first | refine k1_ ?_ _ | refine k2_ ?_ | refine k3_ ?_ _)); refine blk_put (cs := #[.bool false, .slice none 0 0]) ?_ 0 _ rfl; (with_reducible repeat (first | refine k1_ ?_ _ | refine k2_ ?_ | refine k3_ ?_ _)); exact BK117.out) Try.underlying29 rfl (by kernel_rfl)) rfl ?_
 exact ⟨_, by first | rfl | (simp [e1_, e2_] <;> rfl) | (simp [*, e1_, e2_] <;> rfl), by (with_reducible repeat (first | apply v1_ | apply v2_ | apply v3_)); exact v4_ (v5_ (p := ⟨gb117, 1, none⟩) (v5_ (p := ⟨gb117, 0, none⟩) (v4_ HO121.out (fun k_ hk => (⟨hk, hk.2.2⟩ : _ ∧ k_ ≠ gb117))) (fun _ hk => hk.2) (.bool t118)) (fun _ hk => hk.2) (.slice Ao9 t119.length co9)) (fun _ hk => hk.1.1), by repeat (first | (with_reducible first | exact HB.out | apply b1_ | apply b2_ | apply b3_ | refine b4_ ?_ GE116.out | refine b4_ ?_ GE117.out) | exact HB.out)⟩

/-! ### spec_WideAdd: function 17 -/
def spec_WideAdd.f (k : Nat) (a0_0 : Bool) (l0_1 : List Int) (a1_0 : Bool) (l1_1 : List Int) : Option (Bool × List Int) := if (a0_0 == a1_0) = true then ((spec_magAdd.f k l0_1 l1_1).bind fun t159 => ((spec_wide.f k a0_0 t159).bind fun bt162 => (some (bt162.1, bt162.2)))) else ((spec_magCmp.f k l0_1 l1_1).bind fun t166 => (if t166 ≥ 0 then ((spec_magSub.f k l0_1 l1_1).bind fun t167 => ((spec_wide.f k a0_0 t167).bind fun bt170 => (some (bt170.1, bt170.2)))) else ((spec_magSub.f k l1_1 l0_1).bind fun t174 => ((spec_wide.f k a1_0 t174).bind fun bt177 => (some (bt177.1, bt177.2))))))
def spec_WideAdd.T2 : Bool × List (List Nat × List Nat) := (true, [([], []), ([0], [0]), ([], []), ([2], [2]), ([], []), ([4], [4]), ([3, 5], [3, 5]), ([1, 6, 6], [1, 6]), ([7, 7, 0, 1, 2, 3, 4, 5, 6, 7], [7])])
def spec_WideAdd.B2 : List Nat := [0, 1, 0, 4, 0, 16, 60, 127, 255]
theorem spec_WideAdd.tab2 : rtab .any (opsOf Try.f17 2) = spec_WideAdd.T2 := by kernel_rfl
theorem spec_WideAdd.bits2 : waitsOk spec_WideAdd.T2.2 spec_WideAdd.B2 = true := by kernel_rfl
def spec_WideAdd.T4 : Bool × List (List Nat × List Nat) := (true, [([], []), ([0], [0]), ([], []), ([2], [2]), ([], []), ([4], [4]), ([3, 5], [3, 5]), ([1, 6, 6], [1, 6]), ([7, 7, 0, 1, 2, 3, 4, 5, 6, 7], [7])])
def spec_WideAdd.B4 : List Nat := [0, 1, 0, 4, 0, 16, 60, 127, 255]
theorem spec_WideAdd.tab4 : rtab .any (opsOf Try.f17 4) = spec_WideAdd.T4 := by kernel_rfl
theorem spec_WideAdd.bits4 : waitsOk spec_WideAdd.T4.2 spec_WideAdd.B4 = true := by kernel_rfl
def spec_WideAdd.T5 : Bool × List (List Nat × List Nat) := (true, [([], []), ([0], [0]), ([], []), ([2], [2]), ([], []), ([4], [4]), ([3, 5], [3, 5]), ([1, 6, 6], [1, 6]), ([7, 7, 0, 1, 2, 3, 4, 5, 6, 7], [7])])
def spec_WideAdd.B5 : List Nat := [0, 1, 0, 4, 0, 16, 60, 127, 255]
theorem spec_WideAdd.tab5 : rtab .any (opsOf Try.f17 5) = spec_WideAdd.T5 := by kernel_rfl
theorem spec_WideAdd.bits5 : waitsOk spec_WideAdd.T5.2 spec_WideAdd.B5 = true := by kernel_rfl
set_option maxHeartbeats 8000000 in
set_option maxRecDepth 100000 in
theorem spec_WideAdd.calls (k : Nat) (a0_0 : Bool) (A0_1 : Option Addr) (c0_1 : Nat) (l0_1 : List Int) (a1_0 : Bool) (A1_1 : Option Addr) (c1_1 : Nat) (l1_1 : List Int) (r1 : Bool) (r2 : List Int) (w : World) (hr0_1 : Kd.C (Kd.int .u32) w A0_1 l0_1.length l0_1) (hc0_1 : l0_1.length ≤ c0_1) (hr1_1 : Kd.C (Kd.int .u32) w A1_1 l1_1.length l1_1) (hc1_1 : l1_1.length ≤ c1_1) (h : spec_WideAdd.f k a0_0 l0_1 a1_0 l1_1 = some (r1, r2)) :
  Calls Try.prog 17 #[.agg #[.bool a0_0, .slice A0_1 l0_1.length c0_1], .agg #[.bool a1_0, .slice A1_1 l1_1.length c1_1]] w fun e w' => ∃ v1_ : Value, e = .returned (.agg #[.bool r1, v1_]) ∧ Kd.V (Kd.int .u32) 96 w' w.heap.size (fun k_ => (w.heap.size ≤ k_)) v1_ r2 ∧ Below w.heap.size w w' := by
 have hu29 := Try.underlying29
 have HR0_1 := a0_ hr0_1
 have HC0_1 := a0_ hc0_1
 clear hr0_1 hc0_1
 have HR1_1 := a0_ hr1_1
 have HC1_1 := a0_ hc1_1
 clear hr1_1 hc1_1
 have HB := a0_ (Below.refl w.heap.size w)
 have H : (if (a0_0 == a1_0) = true then ((spec_magAdd.f k l0_1 l1_1).bind fun t159 => ((spec_wide.f k a0_0 t159).bind fun bt162 => (some (bt162.1, bt162.2)))) else ((spec_magCmp.f k l0_1 l1_1).bind fun t166 => (if t166 ≥ 0 then ((spec_magSub.f k l0_1 l1_1).bind fun t167 => ((spec_wide.f k a0_0 t167).bind fun bt170 => (some (bt170.1, bt170.2)))) else ((spec_magSub.f k l1_1 l0_1).bind fun t174 => ((spec_wide.f k a1_0 t174).bind fun bt177 => (some (bt177.1, bt177.2))))))) = some (r1, r2) := h
 clear h
 by_cases c3 : (a0_0 == a1_0) = true
 ·
  rw [if_pos c3] at H
  have c3b0 : (a0_0 == a1_0) = true := c3
  (try (have c3b1 : decide (a0_0 = a1_0) = true := by simpa using c3))
  (try (have c3b2 : (a0_0 == a1_0) = true := by simpa using c3))
  clear c3
  replace H := Option.bind_eq_some_iff.mp H
  obtain ⟨t159, A40, H⟩ := H
  replace H : ((spec_wide.f k a0_0 t159).bind fun bt162 => (some (bt162.1, bt162.2))) = some (r1, r2) := H
  have A4 := a0_ A40
  clear A40
  replace H := Option.bind_eq_some_iff.mp H
  obtain ⟨⟨t162, t163⟩, A50, H⟩ := H
  replace H : (some (t162, t163)) = some (r1, r2) := H
  have A5 := a0_ A50
  clear A50
  simp only [Option.some.injEq, Prod.mk.injEq] at H
  obtain ⟨rfl, rfl⟩ := H
  go_enter Try.func17, Try.ntmps17
  try go_wp2_with (first | ((with_reducible refine gate_dst (N := 2) rfl ?_); refine box_event ?hg (N := 2) ?hd (cs := #[.bool a0_0, .slice A0_1 l0_1.length c0_1]) (t := 29) ?hr ?_; (case hd => rfl); (case hg => rfl); (case hr => first | (go_simp; done) | (go_simp; rfl)); intro gb156 hg w6 hbox hb; have n0_ := a0_ (below_step (by repeat (first | (with_reducible first | exact HB.out | apply b1_ | apply b2_ | apply b3_) | exact HB.out)) hb); have n1_ := a0_ (hbox); have n2_ := a0_ ((by rw [hg]; exact (below_size (by repeat (first | (with_reducible first | exact HB.out | apply b1_ | apply b2_ | apply b3_) | exact HB.out))) : w.heap.size ≤ gb156)); have n3_ := a0_ ((by rw [hg]; exact (below_size (by repeat (first | (with_reducible first | exact HB.out | apply b1_ | apply b2_ | apply b3_) | exact HB.out))) : w.heap.size ≤ gb156)); clear HB; have HB := n0_; have BK156 := n1_; have GW156 := n2_; have GE156 := n3_; clear n0_ n1_ n2_ n3_; clear hb hbox hg) | ((with_reducible refine gate_dst (N := 3) rfl ?_); refine box_event ?hg (N := 3) ?hd (cs := #[.bool a1_0, .slice A1_1 l1_1.length c1_1]) (t := 29) ?hr ?_; (case hd => rfl); (case hg => rfl); (case hr => first | (go_simp; done) | (go_simp; rfl)); intro gb157 hg w7 hbox hb; have n0_ := a0_ (blk_below (g := gb156) (o := .cells #[.bool a0_0, .slice A0_1 l0_1.length c0_1] 29 (0, 0)) (by (with_reducible repeat (first | refine k1_ ?_ _ | refine k2_ ?_ | refine k3_ ?_ _)); exact BK156.out) hb); have n1_ := a0_ (below_step (by repeat (first | (with_reducible first | exact HB.out | apply b1_ | apply b2_ | apply b3_ | refine b4_ ?_ GE156.out) | exact HB.out)) hb); have n2_ := a0_ (hbox); have n3_ := a0_ ((by rw [hg]; exact (below_size (by repeat (first | (with_reducible first | exact HB.out | apply b1_ | apply b2_ | apply b3_ | refine b4_ ?_ GE156.out) | exact HB.out))) : w.heap.size ≤ gb157)); have n4_ := a0_ ((by rw [hg]; exact (below_size (by repeat (first | (with_reducible first | exact HB.out | apply b1_ | apply b2_ | apply b3_ | refine b4_ ?_ GE156.out) | exact HB.out))) : w.heap.size ≤ gb157)); have n5_ := a0_ ((by rw [hg]; exact Nat.ne_of_lt (blk_lt (g := gb156) (o := .cells #[.bool a0_0, .slice A0_1 l0_1.length c0_1] 29 (0, 0)) (by (with_reducible repeat (first | refine k1_ ?_ _ | refine k2_ ?_ | refine k3_ ?_ _)); exact BK156.out)) : gb156 ≠ gb157)); have n6_ := a0_ ((by rw [hg]; exact Nat.ne_of_gt (blk_lt (g := gb156) (o := .cells #[.bool a0_0, .slice A0_1 l0_1.length c0_1] 29 (0, 0)) (by (with_reducible repeat (first | refine k1_ ?_ _ | refine k2_ ?_ | refine k3_ ?_ _)); exact BK156.out)) : gb157 ≠ gb156)); clear BK156; clear HB; have BK156 := n0_; have HB := n1_; have BK157 := n2_; have GW157 := n3_; have GE157 := n4_; have NB156_157 := n5_; have NB157_156 := n6_; clear n0_ n1_ n2_ n3_ n4_ n5_ n6_; clear hb hbox hg) | ((with_reducible refine gate_dst (N := 4) rfl ?_); refine box_event ?hg (N := 4) ?hd (cs := #[.bool false, .slice none 0 0]) (t := 29) ?hr ?_; (case hd => rfl); (case hg => rfl); (case hr => first | (go_simp; done) | (go_simp; rfl)); intro gb158 hg w8 hbox hb; have n0_ := a0_ (blk_below (g := gb156) (o := .cells #[.bool a0_0, .slice A0_1 l0_1.length c0_1] 29 (0, 0)) (by (with_reducible repeat (first | refine k1_ ?_ _ | refine k2_ ?_ | refine k3_ ?_ _)); exact BK156.out) hb); have n1_ := a0_ (blk_below (g := gb157) (o := .cells #[.bool a1_0, .slice A1_1 l1_1.length c1_1] 29 (0, 0)) (by (with_reducible repeat (first | refine k1_ ?_ _ | refine k2_ ?_ | refine k3_ ?_ _)); exact BK157.out) hb); have n2_ := a0_ (below_step (by repeat (first | (with_reducible first | exact HB.out | apply b1_ | apply b2_ | apply b3_ | refine b4_ ?_ GE156.out | refine b4_ ?_ GE157.out) | exact HB.out)) hb); have n3_ := a0_ (hbox); have n4_ := a0_ ((by rw [hg]; exact (below_size (by repeat (first | (with_reducible first | exact HB.out | apply b1_ | apply b2_ | apply b3_ | refine b4_ ?_ GE156.out | refine b4_ ?_ GE157.out) | exact HB.out))) : w.heap.size ≤ gb158)); have n5_ := a0_ ((by rw [hg]; exact (below_size (by repeat (first | (with_reducible first | exact HB.out | apply b1_ | apply b2_ | apply b3_ | refine b4_ ?_ GE156.out | refine b4_ ?_ GE157.out) | exact HB.out))) : w.heap.size ≤ gb158)); have n6_ := a0_ ((by rw [hg]; exact Nat.ne_of_lt (blk_lt (g := gb156) (o := .cells #[.bool a0_0, .slice A0_1 l0_1.length c0_1] 29 (0, 0)) (by (with_reducible repeat (first | refine k1_ ?_ _ | refine k2_ ?_ | refine k3_ ?_ _)); exact BK156.out)) : gb156 ≠ gb158)); have n7_ := a0_ ((by rw [hg]; exact Nat.ne_of_gt (blk_lt (g := gb156) (o := .cells #[.bool a0_0, .slice A0_1 l0_1.length c0_1] 29 (0, 0)) (by (with_reducible repeat (first | refine k1_ ?_ _ | refine k2_ ?_ | refine k3_ ?_ _)); exact BK156.out)) : gb158 ≠ gb156)); have n8_ := a0_ ((by rw [hg]; exact Nat.ne_of_lt (blk_lt (g := gb157) (o := .cells #[.bool a1_0, .slice A1_1 l1_1.length c1_1] 29 (0, 0)) (by (with_reducible repeat (first | refine k1_ ?_ _ | refine k2_ ?_ | refine k3_ ?_ _)); exact BK157.out)) : gb157 ≠ gb158)); have n9_ := a0_ ((by rw [hg]; exact Nat.ne_of_gt (blk_lt (g := gb157) (o := .cells #[.bool a1_0, .slice A1_1 l1_1.length c1_1] 29 (0, 0)) (by (with_reducible repeat (first | refine k1_ ?_ _ | refine k2_ ?_ | refine k3_ ?_ _)); exact BK157.out)) : gb158 ≠ gb157)); clear BK156; clear BK157; clear HB; have BK156 := n0_; have BK157 := n1_; have HB := n2_; have BK158 := n3_; have GW158 := n4_; have GE158 := n5_; have NB156_158 := n6_; have NB158_156 := n7_; have NB157_158 := n8_; have NB158_157 := n9_; clear n0_ n1_ n2_ n3_ n4_ n5_ n6_ n7_ n8_ n9_; clear hb hbox hg; have hnb9 := NB156_157.out; have hnc9 := NB157_156.out; have hnb10 := NB156_158.out; have hnc10 := NB158_156.out; have hcz11_0 : w8.cell? ⟨gb156, 0, none⟩ = some (.bool a0_0) := (blk_cell BK156.out 0).trans rfl; have hcz11_1 : w8.cell? ⟨gb156, 1, none⟩ = some (.slice A0_1 l0_1.length c0_1) := (blk_cell BK156.out 1).trans rfl; have hfz11_0 := blk_frozen BK156.out 0; have hfz11_1 := blk_frozen BK156.out 1; have hnb12 := NB157_158.out; have hnc12 := NB158_157.out; have hcz13_0 : w8.cell? ⟨gb157, 0, none⟩ = some (.bool a1_0) := (blk_cell BK157.out 0).trans rfl; have hcz13_1 : w8.cell? ⟨gb157, 1, none⟩ = some (.slice A1_1 l1_1.length c1_1) := (blk_cell BK157.out 1).trans rfl; have hfz13_0 := blk_frozen BK157.out 0; have hfz13_1 := blk_frozen BK157.out 1))
  have n0_ := a0_ (k2_ BK156.out)
  have n1_ := a0_ (k2_ BK157.out)
  have n2_ := a0_ (k2_ BK158.out)
  have n3_ := a0_ (b3_ HB.out)
  clear BK156
  clear BK157
  clear BK158
  clear HB
  have BK156 := n0_
  have BK157 := n1_
  have BK158 := n2_
  have HB := n3_
  clear n0_ n1_ n2_ n3_
  refine start_ (n := 9) (S := fun w' => w'.cell? ⟨gb156, 0, none⟩ = some (.bool a0_0) ∧ w'.cell? ⟨gb156, 1, none⟩ = some (.slice A0_1 l0_1.length c0_1) ∧ w'.cell? ⟨gb157, 0, none⟩ = some (.bool a1_0) ∧ w'.cell? ⟨gb157, 1, none⟩ = some (.slice A1_1 l1_1.length c1_1)) (ds := []) #[false, false, false, false, false, false, false, false, false] (by kernel_rfl) rfl rfl ⟨(blk_cell BK156.out 0).trans rfl, (blk_cell BK156.out 1).trans rfl, (blk_cell BK157.out 0).trans rfl, (blk_cell BK157.out 1).trans rfl⟩ (fun hHeld => ?_); refine with_tabW spec_WideAdd.tab2 spec_WideAdd.bits2 (fun HT_ HW_ => ?_)
  generalize w8.drew = w14 at BK156 BK157 BK158 HB hHeld ⊢
  refine pure_ (i := 0) (N := some 10) (v := ?_) (a' := ?_) #[true, false, false, false, false, false, false, false, false] rfl rfl (any_of HT_.out (by kernel_rfl)) (fun _ _ _ h => h) (Or.inl ⟨by rfl, ?_⟩) ?_ ?_
  rotate_left
  ·
   intro w'
   go_simp
   with_reducible rfl
  rotate_left
  ·
   simp only [Act.put, s1_, s2_, s3_, i64_w, i32_w]
   rfl
  refine pure_ (i := 2) (N := some 12) (v := ?_) (a' := ?_) #[true, false, true, false, false, false, false, false, false] rfl rfl (any_of HT_.out (by kernel_rfl)) (fun _ _ _ h => h) (Or.inl ⟨by rfl, ?_⟩) ?_ ?_
  rotate_left
  ·
   intro w'
   go_simp
   with_reducible rfl
  rotate_left
  ·
   simp only [Act.put, s1_, s2_, s3_, i64_w, i32_w]
   rfl
  refine pure_ (i := 4) (N := some 14) (v := ?_) (a' := ?_) #[true, false, true, false, true, false, false, false, false] rfl rfl (any_of HT_.out (by kernel_rfl)) (fun _ _ _ h => h) (Or.inl ⟨by rfl, ?_⟩) ?_ ?_
  rotate_left
  ·
   intro w'
   go_simp
   with_reducible rfl
  rotate_left
  ·
   simp only [Act.put, s1_, s2_, s3_, i64_w, i32_w]
   rfl
  refine take_ (i := 1) (N := some 11) (v := ?_) (a' := ?_) #[true, true, true, false, true, false, false, false, false] rfl rfl (take_ofW HT_.out HW_.out (by kernel_rfl)) (fun _ _ _ h => h) (Or.inl ⟨by rfl, ?_⟩) hHeld ?_ ?_
  rotate_left
  ·
   rintro w' ⟨s0, s1, s2, s3⟩
   go_simp
   with_reducible rfl
  rotate_left
  ·
   simp only [Act.put, s1_, s2_, s3_, i64_w, i32_w]
   rfl
  refine take_ (i := 3) (N := some 13) (v := ?_) (a' := ?_) #[true, true, true, true, true, false, false, false, false] rfl rfl (take_ofW HT_.out HW_.out (by kernel_rfl)) (fun _ _ _ h => h) (Or.inl ⟨by rfl, ?_⟩) hHeld ?_ ?_
  rotate_left
  ·
   rintro w' ⟨s0, s1, s2, s3⟩
   go_simp
   with_reducible rfl
  rotate_left
  ·
   simp only [Act.put, s1_, s2_, s3_, i64_w, i32_w]
   rfl
  refine take_ (i := 5) (N := some 15) (v := ?_) (a' := ?_) #[true, true, true, true, true, true, false, false, false] rfl rfl (take_ofW HT_.out HW_.out (by kernel_rfl)) (fun _ _ _ h => h) (Or.inl ⟨by rfl, ?_⟩) hHeld ?_ ?_
  rotate_left
  ·
   rintro w' ⟨s0, s1, s2, s3⟩
   go_simp
   with_reducible rfl
  rotate_left
  ·
   simp only [Act.put, s1_, s2_, s3_, i64_w, i32_w]
   rfl
  refine one_ (i := 6) (N := some 16) #[true, true, true, true, true, true, true, false, false] rfl rfl (one_of HT_.out (by kernel_rfl)) (by decide) (fun K hK => ?_)
  refine goes_ Try.func38 (by kernel_rfl) rfl #[.slice A0_1 l0_1.length c0_1, .slice A1_1 l1_1.length c1_1] (by rfl) rfl rfl (by (try simp only [List.map_toArray, List.map_cons, List.map_nil]); first | done | rfl | (simp only [List.length_drop, List.length_take]; rfl)) ?_
  with_reducible refine (spec_magAdd.calls k _ _ l0_1 _ _ l1_1 t159 _ ?side1 ?side2 ?side3 ?side4 A4.out).mono ?_
  (case side1 => repeat (first | exact (Kd.C_below HR0_1.out HB.out) | (with_reducible refine Kd.C_alloc ?_ _) | (with_reducible refine Kd.C_drewN ?_ _) | (with_reducible refine Kd.C_drew ?_)))
  (case side2 => exact HC0_1.out)
  (case side3 => repeat (first | exact (Kd.C_below HR1_1.out HB.out) | (with_reducible refine Kd.C_alloc ?_ _) | (with_reducible refine Kd.C_drewN ?_ _) | (with_reducible refine Kd.C_drew ?_)))
  (case side4 => exact HC1_1.out)
  rintro e w15 ⟨v160, rfl, ho0, hb⟩
  refine ⟨_, rfl, ?_⟩
  have n0_ := a0_ (Kd.R_lower (Kd.R_newM (M := fun k_ => (w.heap.size ≤ k_)) ho0 (below_size (by repeat (first | (with_reducible first | exact HB.out | apply b1_ | apply b2_ | apply b3_ | refine b4_ ?_ GE156.out | refine b4_ ?_ GE157.out | refine b4_ ?_ GE158.out) | exact HB.out))) (fun k_ h_ => h_)) (below_size (by repeat (first | (with_reducible first | exact HB.out | apply b1_ | apply b2_ | apply b3_ | refine b4_ ?_ GE156.out | refine b4_ ?_ GE157.out | refine b4_ ?_ GE158.out) | exact HB.out))))
  have n1_ := a0_ (blk_below (g := gb156) (o := .cells #[.bool a0_0, .slice A0_1 l0_1.length c0_1] 29 (0, 0)) (by (with_reducible repeat (first | refine k1_ ?_ _ | refine k2_ ?_ | refine k3_ ?_ _)); exact BK156.out) hb)
  have n2_ := a0_ (blk_below (g := gb157) (o := .cells #[.bool a1_0, .slice A1_1 l1_1.length c1_1] 29 (0, 0)) (by (with_reducible repeat (first | refine k1_ ?_ _ | refine k2_ ?_ | refine k3_ ?_ _)); exact BK157.out) hb)
  have n3_ := a0_ (blk_below (g := gb158) (o := .cells #[.bool false, .slice none 0 0] 29 (0, 0)) (by (with_reducible repeat (first | refine k1_ ?_ _ | refine k2_ ?_ | refine k3_ ?_ _)); exact BK158.out) hb)
  have n4_ := a0_ (below_step (by repeat (first | (with_reducible first | exact HB.out | apply b1_ | apply b2_ | apply b3_ | refine b4_ ?_ GE156.out | refine b4_ ?_ GE157.out | refine b4_ ?_ GE158.out) | exact HB.out)) hb)
  clear BK156
  clear BK157
  clear BK158
  clear HB
  have HO161 := n0_
  have BK156 := n1_
  have BK157 := n2_
  have BK158 := n3_
  have HB := n4_
  clear n0_ n1_ n2_ n3_ n4_
  (try clear hb)
  (try clear hb2)
  (try clear hk)
  (try clear hi)
  (try clear ho0)
  obtain ⟨Ao16, co16, eo16⟩ := Kd.R_slice HO161.out
  (first | subst eo16 | (injection eo16 with f1_ f2_ f3_; have f4_ := f1_.symm; have f5_ := f3_.symm; clear f1_ f2_ f3_; subst f4_; subst f5_))
  refine hK.out _ _ ⟨(blk_cell BK156.out 0).trans rfl, (blk_cell BK156.out 1).trans rfl, (blk_cell BK157.out 0).trans rfl, (blk_cell BK157.out 1).trans rfl⟩ (fun hHeld => ?_)
  clear hK K
  refine norm_ (a' := ?_) ?_ ?_
  rotate_left
  ·
   show Act.put _ (some 16) _ = _
   simp only [Act.put, s1_, s2_, s3_, i64_w, i32_w]
   rfl
  refine one_ (i := 7) (N := some 17) #[true, true, true, true, true, true, true, true, false] rfl rfl (one_of HT_.out (by kernel_rfl)) (by decide) (fun K hK => ?_)
  refine goes_ Try.func30 (by kernel_rfl) rfl #[.bool a0_0, .slice Ao16 t159.length co16] (by rfl) rfl rfl (by (try simp only [List.map_toArray, List.map_cons, List.map_nil]); first | done | rfl | (simp only [List.length_drop, List.length_take]; rfl)) ?_
  with_reducible refine (spec_wide.calls k a0_0 (fun k_ => some k_ = (.slice Ao16 t159.length co16 : Value).ownBlock) _ _ t159 t162 t163 _ ?side1 A5.out).mono ?_
  (case side1 => exact Kd.R_V (Kd.R_tight rfl (Kd.R_types (Kd.R_types (Kd.R_types (HO161.out) BK156.out (by decide)) BK157.out (by decide)) BK158.out (by decide))))
  rintro e w17 ⟨v164, rfl, ho0, hb⟩
  refine ⟨_, rfl, ?_⟩
  have n0_ := a0_ (Kd.R_below (by (with_reducible repeat (first | apply r1_ | apply r2_ | apply r3_)); exact HO161.out) hb)
  have n1_ := a0_ (Kd.V_lower (v4_ (ok' := fun k_ => (w.heap.size ≤ k_) ∧ k_ ≠ gb156 ∧ k_ ≠ gb157 ∧ k_ ≠ gb158) ho0 (fun k_ hk_ => ⟨Or.elim hk_ (fun hs_ => ((Kd.R_types (Kd.R_types (Kd.R_types (HO161.out) BK156.out (by decide)) BK157.out (by decide)) BK158.out (by decide)).1 k_ hs_.symm).1.1.1.1) (fun hn_ => (Nat.le_trans (below_size (by repeat (first | (with_reducible first | exact HB.out | apply b1_ | apply b2_ | apply b3_ | refine b4_ ?_ GE156.out | refine b4_ ?_ GE157.out | refine b4_ ?_ GE158.out) | exact HB.out))) hn_)), Or.elim hk_ (fun hs_ => ((Kd.R_types (Kd.R_types (Kd.R_types (HO161.out) BK156.out (by decide)) BK157.out (by decide)) BK158.out (by decide)).1 k_ hs_.symm).1.1.2) (fun hn_ => (Kd.freshB (g := gb156) (o := .cells #[.bool a0_0, .slice A0_1 l0_1.length c0_1] 29 (0, 0)) (by (with_reducible repeat (first | refine k1_ ?_ _ | refine k2_ ?_ | refine k3_ ?_ _)); exact BK156.out) k_ hn_)), Or.elim hk_ (fun hs_ => ((Kd.R_types (Kd.R_types (Kd.R_types (HO161.out) BK156.out (by decide)) BK157.out (by decide)) BK158.out (by decide)).1 k_ hs_.symm).1.2) (fun hn_ => (Kd.freshB (g := gb157) (o := .cells #[.bool a1_0, .slice A1_1 l1_1.length c1_1] 29 (0, 0)) (by (with_reducible repeat (first | refine k1_ ?_ _ | refine k2_ ?_ | refine k3_ ?_ _)); exact BK157.out) k_ hn_)), Or.elim hk_ (fun hs_ => ((Kd.R_types (Kd.R_types (Kd.R_types (HO161.out) BK156.out (by decide)) BK157.out (by decide)) BK158.out (by decide)).1 k_ hs_.symm).2) (fun hn_ => (Kd.freshB (g := gb158) (o := .cells #[.bool false, .slice none 0 0] 29 (0, 0)) (by (with_reducible repeat (first | refine k1_ ?_ _ | refine k2_ ?_ | refine k3_ ?_ _)); exact BK158.out) k_ hn_))⟩)) (below_size (by repeat (first | (with_reducible first | exact HB.out | apply b1_ | apply b2_ | apply b3_ | refine b4_ ?_ GE156.out | refine b4_ ?_ GE157.out | refine b4_ ?_ GE158.out) | exact HB.out))))
  have n2_ := a0_ (blk_below (g := gb156) (o := .cells #[.bool a0_0, .slice A0_1 l0_1.length c0_1] 29 (0, 0)) (by (with_reducible repeat (first | refine k1_ ?_ _ | refine k2_ ?_ | refine k3_ ?_ _)); exact BK156.out) hb)
  have n3_ := a0_ (blk_below (g := gb157) (o := .cells #[.bool a1_0, .slice A1_1 l1_1.length c1_1] 29 (0, 0)) (by (with_reducible repeat (first | refine k1_ ?_ _ | refine k2_ ?_ | refine k3_ ?_ _)); exact BK157.out) hb)
  have n4_ := a0_ (blk_below (g := gb158) (o := .cells #[.bool false, .slice none 0 0] 29 (0, 0)) (by (with_reducible repeat (first | refine k1_ ?_ _ | refine k2_ ?_ | refine k3_ ?_ _)); exact BK158.out) hb)
  have n5_ := a0_ (below_step (by repeat (first | (with_reducible first | exact HB.out | apply b1_ | apply b2_ | apply b3_ | refine b4_ ?_ GE156.out | refine b4_ ?_ GE157.out | refine b4_ ?_ GE158.out) | exact HB.out)) hb)
  clear HO161
  clear BK156
  clear BK157
  clear BK158
  clear HB
  have HO161 := n0_
  have HO165 := n1_
  have BK156 := n2_
  have BK157 := n3_
  have BK158 := n4_
  have HB := n5_
  clear n0_ n1_ n2_ n3_ n4_ n5_
  (try clear hb)
  (try clear hb2)
  (try clear hk)
  (try clear hi)
  (try clear ho0)
  obtain ⟨Ao19, co19, eo19⟩ := Kd.V_slice HO165.out
  (first | subst eo19 | (injection eo19 with f1_ f2_ f3_; have f4_ := f1_.symm; have f5_ := f3_.symm; clear f1_ f2_ f3_; subst f4_; subst f5_))
  refine hK.out _ _ ⟨(blk_cell BK156.out 0).trans rfl, (blk_cell BK156.out 1).trans rfl, (blk_cell BK157.out 0).trans rfl, (blk_cell BK157.out 1).trans rfl⟩ (fun hHeld => ?_)
  clear hK K
  refine norm_ (a' := ?_) ?_ ?_
  rotate_left
  ·
   show Act.put _ (some 17) _ = _
   simp only [Act.put, s1_, s2_, s3_, i64_w, i32_w]
   rfl
  refine one_ (i := 8) (N := none) #[true, true, true, true, true, true, true, true, true] rfl rfl (one_of HT_.out (by kernel_rfl)) (by decide) (fun K hK => ?_)
  have hs18 : w17.cell? ⟨gb158, 0, none⟩ = some (.bool false) := (blk_cell BK158.out 0).trans rfl
  have hfs18 := blk_frozen BK158.out 0
  have hns18_0 := NB156_158.out
  have hns18_1 := NB157_158.out
  have hms18_0 := NB158_156.out
  have hms18_1 := NB158_157.out
  have hs20 : w17.cell? ⟨gb158, 1, none⟩ = some (.slice none 0 0) := (blk_cell BK158.out 1).trans rfl
  have hfs20 := blk_frozen BK158.out 1
  have hns20_0 := NB156_158.out
  have hns20_1 := NB157_158.out
  have hms20_0 := NB158_156.out
  have hms20_1 := NB158_157.out
  refine skip_ (w1 := ?_) (by rfl) rfl ?_ ?_
  rotate_left
  ·
   go_simp
   rfl
  refine hK.out _ _ ⟨((cell_far (p := ⟨gb158, _, none⟩) NB156_158.out _).trans (((cell_far (p := ⟨gb158, _, none⟩) NB156_158.out _).trans (hHeld.1)))), ((cell_far (p := ⟨gb158, _, none⟩) NB156_158.out _).trans (((cell_far (p := ⟨gb158, _, none⟩) NB156_158.out _).trans (hHeld.2.1)))), ((cell_far (p := ⟨gb158, _, none⟩) NB157_158.out _).trans (((cell_far (p := ⟨gb158, _, none⟩) NB157_158.out _).trans (hHeld.2.2.1)))), ((cell_far (p := ⟨gb158, _, none⟩) NB157_158.out _).trans (((cell_far (p := ⟨gb158, _, none⟩) NB157_158.out _).trans (hHeld.2.2.2))))⟩ (fun hHeld => ?_)
  clear hK K
  refine done_ (done_of HT_.out (by kernel_rfl)) ?_
  try go_wp2
  refine bodyPost_ret (results_cell_row rfl _ _ gb158 29 #[.bool t162, .slice Ao19 t163.length co19] (0, 0) _ rfl (by (with_reducible repeat (first | refine k1_ ?_ _ | refine k2_ ?_ | refine k3_ ?_ _)); refine blk_put (cs := #[.bool t162, .slice none 0 0]) ?_ 1 _ rfl; (with_reducible repeat (first | refine k1_ ?_ _ | refine k2_ ?_ | refine k3_ ?_ _)); refine blk_put (cs := #[.bool false, .slice none 0 0]) ?_ 0 _ rfl; (with_reducible repeat (first | refine k1_ ?_ _ | refine k2_ ?_ | refine k3_ ?_ _)); exact BK158.out) Try.underlying29 rfl (by kernel_rfl)) rfl ?_
  exact ⟨_, by first | rfl | (simp [e1_, e2_] <;> rfl) | (simp [*, e1_, e2_] <;> rfl), by (with_reducible repeat (first | apply v1_ | apply v2_ | apply v3_)); exact v4_ (v5_ (p := ⟨gb158, 1, none⟩) (v5_ (p := ⟨gb158, 0, none⟩) (v4_ HO165.out (fun k_ hk => (⟨hk, hk.2.2.2⟩ : _ ∧ k_ ≠ gb158))) (fun _ hk => hk.2) (.bool t162)) (fun _ hk => hk.2) (.slice Ao19 t163.length co19)) (fun _ hk => hk.1.1), by repeat (first | (with_reducible first | exact HB.out | apply b1_ | apply b2_ | apply b3_ | refine b4_ ?_ GE156.out | refine b4_ ?_ GE157.out | refine b4_ ?_ GE158.out) | exact HB.out)⟩
 ·
  rw [if_neg c3] at H
  have c3b0 : (a0_0 == a1_0) = false := by simpa using c3
  (try (have c3b1 : decide (a0_0 = a1_0) = false := by simpa using c3))
  (try (have c3b2 : (a0_0 == a1_0) = false := by simpa using c3))
  (try (have c3b3 : ¬ (a0_0 = a1_0) := by simpa using c3))
  clear c3
  replace H := Option.bind_eq_some_iff.mp H
  obtain ⟨t166, A210, H⟩ := H
  replace H : (if t166 ≥ 0 then ((spec_magSub.f k l0_1 l1_1).bind fun t167 => ((spec_wide.f k a0_0 t167).bind fun bt170 => (some (bt170.1, bt170.2)))) else ((spec_magSub.f k l1_1 l0_1).bind fun t174 => ((spec_wide.f k a1_0 t174).bind fun bt177 => (some (bt177.1, bt177.2))))) = some (r1, r2) := H
  have A21 := a0_ A210
  clear A210
  by_cases c22 : t166 ≥ 0
  ·
   rw [if_pos c22] at H
   have c22b0 : decide (0 ≤ t166) = true := d2_ c22
   clear c22
   replace H := Option.bind_eq_some_iff.mp H
   obtain ⟨t167, A230, H⟩ := H
   replace H : ((spec_wide.f k a0_0 t167).bind fun bt170 => (some (bt170.1, bt170.2))) = some (r1, r2) := H
   have A23 := a0_ A230
   clear A230
   replace H := Option.bind_eq_some_iff.mp H
   obtain ⟨⟨t170, t171⟩, A240, H⟩ := H
   replace H : (some (t170, t171)) = some (r1, r2) := H
   have A24 := a0_ A240
   clear A240
   simp only [Option.some.injEq, Prod.mk.injEq] at H
   obtain ⟨rfl, rfl⟩ := H
   go_enter Try.func17, Try.ntmps17
   try go_wp2_with (first | ((with_reducible refine gate_dst (N := 2) rfl ?_); refine box_event ?hg (N := 2) ?hd (cs := #[.bool a0_0, .slice A0_1 l0_1.length c0_1]) (t := 29) ?hr ?_; (case hd => rfl); (case hg => rfl); (case hr => first | (go_simp; done) | (go_simp; rfl)); intro gb156 hg w25 hbox hb; have n0_ := a0_ (below_step (by repeat (first | (with_reducible first | exact HB.out | apply b1_ | apply b2_ | apply b3_) | exact HB.out)) hb); have n1_ := a0_ (hbox); have n2_ := a0_ ((by rw [hg]; exact (below_size (by repeat (first | (with_reducible first | exact HB.out | apply b1_ | apply b2_ | apply b3_) | exact HB.out))) : w.heap.size ≤ gb156)); have n3_ := a0_ ((by rw [hg]; exact (below_size (by repeat (first | (with_reducible first | exact HB.out | apply b1_ | apply b2_ | apply b3_) | exact HB.out))) : w.heap.size ≤ gb156)); clear HB; have HB := n0_; have BK156 := n1_; have GW156 := n2_; have GE156 := n3_; clear n0_ n1_ n2_ n3_; clear hb hbox hg) | ((with_reducible refine gate_dst (N := 3) rfl ?_); refine box_event ?hg (N := 3) ?hd (cs := #[.bool a1_0, .slice A1_1 l1_1.length c1_1]) (t := 29) ?hr ?_; (case hd => rfl); (case hg => rfl); (case hr => first | (go_simp; done) | (go_simp; rfl)); intro gb157 hg w26 hbox hb; have n0_ := a0_ (blk_below (g := gb156) (o := .cells #[.bool a0_0, .slice A0_1 l0_1.length c0_1] 29 (0, 0)) (by (with_reducible repeat (first | refine k1_ ?_ _ | refine k2_ ?_ | refine k3_ ?_ _)); exact BK156.out) hb); have n1_ := a0_ (below_step (by repeat (first | (with_reducible first | exact HB.out | apply b1_ | apply b2_ | apply b3_ | refine b4_ ?_ GE156.out) | exact HB.out)) hb); have n2_ := a0_ (hbox); have n3_ := a0_ ((by rw [hg]; exact (below_size (by repeat (first | (with_reducible first | exact HB.out | apply b1_ | apply b2_ | apply b3_ | refine b4_ ?_ GE156.out) | exact HB.out))) : w.heap.size ≤ gb157)); have n4_ := a0_ ((by rw [hg]; exact (below_size (by repeat (first | (with_reducible first | exact HB.out | apply b1_ | apply b2_ | apply b3_ | refine b4_ ?_ GE156.out) | exact HB.out))) : w.heap.size ≤ gb157)); have n5_ := a0_ ((by rw [hg]; exact Nat.ne_of_lt (blk_lt (g := gb156) (o := .cells #[.bool a0_0, .slice A0_1 l0_1.length c0_1] 29 (0, 0)) (by (with_reducible repeat (first | refine k1_ ?_ _ | refine k2_ ?_ | refine k3_ ?_ _)); exact BK156.out)) : gb156 ≠ gb157)); have n6_ := a0_ ((by rw [hg]; exact Nat.ne_of_gt (blk_lt (g := gb156) (o := .cells #[.bool a0_0, .slice A0_1 l0_1.length c0_1] 29 (0, 0)) (by (with_reducible repeat (first | refine k1_ ?_ _ | refine k2_ ?_ | refine k3_ ?_ _)); exact BK156.out)) : gb157 ≠ gb156)); clear BK156; clear HB; have BK156 := n0_; have HB := n1_; have BK157 := n2_; have GW157 := n3_; have GE157 := n4_; have NB156_157 := n5_; have NB157_156 := n6_; clear n0_ n1_ n2_ n3_ n4_ n5_ n6_; clear hb hbox hg) | ((with_reducible refine gate_dst (N := 4) rfl ?_); refine box_event ?hg (N := 4) ?hd (cs := #[.bool false, .slice none 0 0]) (t := 29) ?hr ?_; (case hd => rfl); (case hg => rfl); (case hr => first | (go_simp; done) | (go_simp; rfl)); intro gb158 hg w27 hbox hb; have n0_ := a0_ (blk_below (g := gb156) (o := .cells #[.bool a0_0, .slice A0_1 l0_1.length c0_1] 29 (0, 0)) (by (with_reducible repeat (first | refine k1_ ?_ _ | refine k2_ ?_ | refine k3_ ?_ _)); exact BK156.out) hb); have n1_ := a0_ (blk_below (g := gb157) (o := .cells #[.bool a1_0, .slice A1_1 l1_1.length c1_1] 29 (0, 0)) (by (with_reducible repeat (first | refine k1_ ?_ _ | refine k2_ ?_ | refine k3_ ?_ _)); exact BK157.out) hb); have n2_ := a0_ (below_step (by repeat (first | (with_reducible first | exact HB.out | apply b1_ | apply b2_ | apply b3_ | refine b4_ ?_ GE156.out | refine b4_ ?_ GE157.out) | exact HB.out)) hb); have n3_ := a0_ (hbox); have n4_ := a0_ ((by rw [hg]; exact (below_size (by repeat (first | (with_reducible first | exact HB.out | apply b1_ | apply b2_ | apply b3_ | refine b4_ ?_ GE156.out | refine b4_ ?_ GE157.out) | exact HB.out))) : w.heap.size ≤ gb158)); have n5_ := a0_ ((by rw [hg]; exact (below_size (by repeat (first | (with_reducible first | exact HB.out | apply b1_ | apply b2_ | apply b3_ | refine b4_ ?_ GE156.out | refine b4_ ?_ GE157.out) | exact HB.out))) : w.heap.size ≤ gb158)); have n6_ := a0_ ((by rw [hg]; exact Nat.ne_of_lt (blk_lt (g := gb156) (o := .cells #[.bool a0_0, .slice A0_1 l0_1.length c0_1] 29 (0, 0)) (by (with_reducible repeat (first | refine k1_ ?_ _ | refine k2_ ?_ | refine k3_ ?_ _)); exact BK156.out)) : gb156 ≠ gb158)); have n7_ := a0_ ((by rw [hg]; exact Nat.ne_of_gt (blk_lt (g := gb156) (o := .cells #[.bool a0_0, .slice A0_1 l0_1.length c0_1] 29 (0, 0)) (by (with_reducible repeat (first | refine k1_ ?_ _ | refine k2_ ?_ | refine k3_ ?_ _)); exact BK156.out)) : gb158 ≠ gb156)); have n8_ := a0_ ((by rw [hg]; exact Nat.ne_of_lt (blk_lt (g := gb157) (o := .cells #[.bool a1_0, .slice A1_1 l1_1.length c1_1] 29 (0, 0)) (by (with_reducible repeat (first | refine k1_ ?_ _ | refine k2_ ?_ | refine k3_ ?_ _)); exact BK157.out)) : gb157 ≠ gb158)); have n9_ := a0_ ((by rw [hg]; exact Nat.ne_of_gt (blk_lt (g := gb157) (o := .cells #[.bool a1_0, .slice A1_1 l1_1.length c1_1] 29 (0, 0)) (by (with_reducible repeat (first | refine k1_ ?_ _ | refine k2_ ?_ | refine k3_ ?_ _)); exact BK157.out)) : gb158 ≠ gb157)); clear BK156; clear BK157; clear HB; have BK156 := n0_; have BK157 := n1_; have HB := n2_; have BK158 := n3_; have GW158 := n4_; have GE158 := n5_; have NB156_158 := n6_; have NB158_156 := n7_; have NB157_158 := n8_; have NB158_157 := n9_; clear n0_ n1_ n2_ n3_ n4_ n5_ n6_ n7_ n8_ n9_; clear hb hbox hg; have hnb28 := NB156_157.out; have hnc28 := NB157_156.out; have hnb29 := NB156_158.out; have hnc29 := NB158_156.out; have hcz30_0 : w27.cell? ⟨gb156, 0, none⟩ = some (.bool a0_0) := (blk_cell BK156.out 0).trans rfl; have hcz30_1 : w27.cell? ⟨gb156, 1, none⟩ = some (.slice A0_1 l0_1.length c0_1) := (blk_cell BK156.out 1).trans rfl; have hfz30_0 := blk_frozen BK156.out 0; have hfz30_1 := blk_frozen BK156.out 1; have hnb31 := NB157_158.out; have hnc31 := NB158_157.out; have hcz32_0 : w27.cell? ⟨gb157, 0, none⟩ = some (.bool a1_0) := (blk_cell BK157.out 0).trans rfl; have hcz32_1 : w27.cell? ⟨gb157, 1, none⟩ = some (.slice A1_1 l1_1.length c1_1) := (blk_cell BK157.out 1).trans rfl; have hfz32_0 := blk_frozen BK157.out 0; have hfz32_1 := blk_frozen BK157.out 1) | ((with_reducible refine gate_callee (f := 39) rfl ?_); refine goesL_ (some 22) rfl rfl Try.func39 (by kernel_rfl) rfl #[.slice A0_1 l0_1.length c0_1, .slice A1_1 l1_1.length c1_1] rfl (by (try simp only [List.map_toArray, List.map_cons, List.map_nil]); first | done | rfl | (simp only [List.length_drop, List.length_take]; rfl)) ?_; (with_reducible refine (spec_magCmp.calls k _ _ l0_1 _ _ l1_1 t166 _ ?side1 ?side2 ?side3 ?side4 A21.out).mono ?_); (case side1 => repeat (first | exact (Kd.C_below HR0_1.out HB.out) | (with_reducible refine Kd.C_alloc ?_ _) | (with_reducible refine Kd.C_drewN ?_ _) | (with_reducible refine Kd.C_drew ?_))); (case side2 => exact HC0_1.out); (case side3 => repeat (first | exact (Kd.C_below HR1_1.out HB.out) | (with_reducible refine Kd.C_alloc ?_ _) | (with_reducible refine Kd.C_drewN ?_ _) | (with_reducible refine Kd.C_drew ?_))); (case side4 => exact HC1_1.out); rintro e w' ⟨rfl, ⟨nd, rfl⟩⟩; refine ⟨_, rfl, ?_⟩; (try (rw [drewN_self w27]; generalize hq_ : World.drewN w27 _ = w27; have n0_ : Aside0 (w27.heap[gb156]? = some (.cells #[.bool a0_0, .slice A0_1 l0_1.length c0_1] 29 (0, 0))) := ⟨by rw [← hq_]; exact (by (with_reducible repeat (first | refine k1_ ?_ _ | refine k2_ ?_ | refine k3_ ?_ _)); exact BK156.out)⟩; have n1_ : Aside0 (w27.heap[gb157]? = some (.cells #[.bool a1_0, .slice A1_1 l1_1.length c1_1] 29 (0, 0))) := ⟨by rw [← hq_]; exact (by (with_reducible repeat (first | refine k1_ ?_ _ | refine k2_ ?_ | refine k3_ ?_ _)); exact BK157.out)⟩; have n2_ : Aside0 (w27.heap[gb158]? = some (.cells #[.bool false, .slice none 0 0] 29 (0, 0))) := ⟨by rw [← hq_]; exact (by (with_reducible repeat (first | refine k1_ ?_ _ | refine k2_ ?_ | refine k3_ ?_ _)); exact BK158.out)⟩; have n3_ : Aside0 (Below w.heap.size w w27) := ⟨by rw [← hq_]; exact (by repeat (first | (with_reducible first | exact HB.out | apply b1_ | apply b2_ | apply b3_ | refine b4_ ?_ GE156.out | refine b4_ ?_ GE157.out | refine b4_ ?_ GE158.out) | exact HB.out))⟩; clear BK156 BK157 BK158 HB hq_; have BK156 := n0_; have BK157 := n1_; have BK158 := n2_; have HB := n3_; clear n0_ n1_ n2_ n3_))))
   have n0_ := a0_ (k2_ BK156.out)
   have n1_ := a0_ (k2_ BK157.out)
   have n2_ := a0_ (k2_ BK158.out)
   have n3_ := a0_ (b3_ HB.out)
   clear BK156
   clear BK157
   clear BK158
   clear HB
   have BK156 := n0_
   have BK157 := n1_
   have BK158 := n2_
   have HB := n3_
   clear n0_ n1_ n2_ n3_
   refine start_ (n := 9) (S := fun w' => w'.cell? ⟨gb156, 0, none⟩ = some (.bool a0_0) ∧ w'.cell? ⟨gb156, 1, none⟩ = some (.slice A0_1 l0_1.length c0_1) ∧ w'.cell? ⟨gb157, 0, none⟩ = some (.bool a1_0) ∧ w'.cell? ⟨gb157, 1, none⟩ = some (.slice A1_1 l1_1.length c1_1)) (ds := []) #[false, false, false, false, false, false, false, false, false] (by kernel_rfl) rfl rfl ⟨(blk_cell BK156.out 0).trans rfl, (blk_cell BK156.out 1).trans rfl, (blk_cell BK157.out 0).trans rfl, (blk_cell BK157.out 1).trans rfl⟩ (fun hHeld => ?_); refine with_tabW spec_WideAdd.tab4 spec_WideAdd.bits4 (fun HT_ HW_ => ?_)
   generalize w27.drew = w33 at BK156 BK157 BK158 HB hHeld ⊢
   refine pure_ (i := 0) (N := some 24) (v := ?_) (a' := ?_) #[true, false, false, false, false, false, false, false, false] rfl rfl (any_of HT_.out (by kernel_rfl)) (fun _ _ _ h => h) (Or.inl ⟨by rfl, ?_⟩) ?_ ?_
   rotate_left
   ·
    intro w'
    go_simp
    with_reducible rfl
   rotate_left
   ·
    simp only [Act.put, s1_, s2_, s3_, i64_w, i32_w]
    rfl
   refine pure_ (i := 2) (N := some 26) (v := ?_) (a' := ?_) #[true, false, true, false, false, false, false, false, false] rfl rfl (any_of HT_.out (by kernel_rfl)) (fun _ _ _ h => h) (Or.inl ⟨by rfl, ?_⟩) ?_ ?_
   rotate_left
   ·
    intro w'
    go_simp
    with_reducible rfl
   rotate_left
   ·
    simp only [Act.put, s1_, s2_, s3_, i64_w, i32_w]
    rfl
   refine pure_ (i := 4) (N := some 28) (v := ?_) (a' := ?_) #[true, false, true, false, true, false, false, false, false] rfl rfl (any_of HT_.out (by kernel_rfl)) (fun _ _ _ h => h) (Or.inl ⟨by rfl, ?_⟩) ?_ ?_
   rotate_left
   ·
    intro w'
    go_simp
    with_reducible rfl
   rotate_left
   ·
    simp only [Act.put, s1_, s2_, s3_, i64_w, i32_w]
    rfl
   refine take_ (i := 1) (N := some 25) (v := ?_) (a' := ?_) #[true, true, true, false, true, false, false, false, false] rfl rfl (take_ofW HT_.out HW_.out (by kernel_rfl)) (fun _ _ _ h => h) (Or.inl ⟨by rfl, ?_⟩) hHeld ?_ ?_
   rotate_left
   ·
    rintro w' ⟨s0, s1, s2, s3⟩
    go_simp
    with_reducible rfl
   rotate_left
   ·
    simp only [Act.put, s1_, s2_, s3_, i64_w, i32_w]
    rfl
   refine take_ (i := 3) (N := some 27) (v := ?_) (a' := ?_) #[true, true, true, true, true, false, false, false, false] rfl rfl (take_ofW HT_.out HW_.out (by kernel_rfl)) (fun _ _ _ h => h) (Or.inl ⟨by rfl, ?_⟩) hHeld ?_ ?_
   rotate_left
   ·
    rintro w' ⟨s0, s1, s2, s3⟩
    go_simp
    with_reducible rfl
   rotate_left
   ·
    simp only [Act.put, s1_, s2_, s3_, i64_w, i32_w]
    rfl
   refine take_ (i := 5) (N := some 29) (v := ?_) (a' := ?_) #[true, true, true, true, true, true, false, false, false] rfl rfl (take_ofW HT_.out HW_.out (by kernel_rfl)) (fun _ _ _ h => h) (Or.inl ⟨by rfl, ?_⟩) hHeld ?_ ?_
   rotate_left
   ·
    rintro w' ⟨s0, s1, s2, s3⟩
    go_simp
    with_reducible rfl
   rotate_left
   ·
    simp only [Act.put, s1_, s2_, s3_, i64_w, i32_w]
    rfl
   refine one_ (i := 6) (N := some 30) #[true, true, true, true, true, true, true, false, false] rfl rfl (one_of HT_.out (by kernel_rfl)) (by decide) (fun K hK => ?_)
   refine goes_ Try.func40 (by kernel_rfl) rfl #[.slice A0_1 l0_1.length c0_1, .slice A1_1 l1_1.length c1_1] (by rfl) rfl rfl (by (try simp only [List.map_toArray, List.map_cons, List.map_nil]); first | done | rfl | (simp only [List.length_drop, List.length_take]; rfl)) ?_
   with_reducible refine (spec_magSub.calls k _ _ l0_1 _ _ l1_1 t167 _ ?side1 ?side2 ?side3 ?side4 A23.out).mono ?_
   (case side1 => repeat (first | exact (Kd.C_below HR0_1.out HB.out) | (with_reducible refine Kd.C_alloc ?_ _) | (with_reducible refine Kd.C_drewN ?_ _) | (with_reducible refine Kd.C_drew ?_)))
   (case side2 => exact HC0_1.out)
   (case side3 => repeat (first | exact (Kd.C_below HR1_1.out HB.out) | (with_reducible refine Kd.C_alloc ?_ _) | (with_reducible refine Kd.C_drewN ?_ _) | (with_reducible refine Kd.C_drew ?_)))
   (case side4 => exact HC1_1.out)
   rintro e w34 ⟨v168, rfl, ho0, hb⟩
   refine ⟨_, rfl, ?_⟩
   have n0_ := a0_ (Kd.V_lower (v4_ (ok' := fun k_ => (w.heap.size ≤ k_) ∧ k_ ≠ gb156 ∧ k_ ≠ gb157 ∧ k_ ≠ gb158) ho0 (fun k_ hk_ => ⟨(Nat.le_trans (below_size (by repeat (first | (with_reducible first | exact HB.out | apply b1_ | apply b2_ | apply b3_ | refine b4_ ?_ GE156.out | refine b4_ ?_ GE157.out | refine b4_ ?_ GE158.out) | exact HB.out))) hk_), (Kd.freshB (g := gb156) (o := .cells #[.bool a0_0, .slice A0_1 l0_1.length c0_1] 29 (0, 0)) (by (with_reducible repeat (first | refine k1_ ?_ _ | refine k2_ ?_ | refine k3_ ?_ _)); exact BK156.out) k_ hk_), (Kd.freshB (g := gb157) (o := .cells #[.bool a1_0, .slice A1_1 l1_1.length c1_1] 29 (0, 0)) (by (with_reducible repeat (first | refine k1_ ?_ _ | refine k2_ ?_ | refine k3_ ?_ _)); exact BK157.out) k_ hk_), (Kd.freshB (g := gb158) (o := .cells #[.bool false, .slice none 0 0] 29 (0, 0)) (by (with_reducible repeat (first | refine k1_ ?_ _ | refine k2_ ?_ | refine k3_ ?_ _)); exact BK158.out) k_ hk_)⟩)) (below_size (by repeat (first | (with_reducible first | exact HB.out | apply b1_ | apply b2_ | apply b3_ | refine b4_ ?_ GE156.out | refine b4_ ?_ GE157.out | refine b4_ ?_ GE158.out) | exact HB.out))))
   have n1_ := a0_ (blk_below (g := gb156) (o := .cells #[.bool a0_0, .slice A0_1 l0_1.length c0_1] 29 (0, 0)) (by (with_reducible repeat (first | refine k1_ ?_ _ | refine k2_ ?_ | refine k3_ ?_ _)); exact BK156.out) hb)
   have n2_ := a0_ (blk_below (g := gb157) (o := .cells #[.bool a1_0, .slice A1_1 l1_1.length c1_1] 29 (0, 0)) (by (with_reducible repeat (first | refine k1_ ?_ _ | refine k2_ ?_ | refine k3_ ?_ _)); exact BK157.out) hb)
   have n3_ := a0_ (blk_below (g := gb158) (o := .cells #[.bool false, .slice none 0 0] 29 (0, 0)) (by (with_reducible repeat (first | refine k1_ ?_ _ | refine k2_ ?_ | refine k3_ ?_ _)); exact BK158.out) hb)
   have n4_ := a0_ (below_step (by repeat (first | (with_reducible first | exact HB.out | apply b1_ | apply b2_ | apply b3_ | refine b4_ ?_ GE156.out | refine b4_ ?_ GE157.out | refine b4_ ?_ GE158.out) | exact HB.out)) hb)
   clear BK156
   clear BK157
   clear BK158
   clear HB
   have HO169 := n0_
   have BK156 := n1_
   have BK157 := n2_
   have BK158 := n3_
   have HB := n4_
   clear n0_ n1_ n2_ n3_ n4_
   (try clear hb)
   (try clear hb2)
   (try clear hk)
   (try clear hi)
   (try clear ho0)
   obtain ⟨Ao35, co35, eo35⟩ := Kd.V_slice HO169.out
   (first | subst eo35 | (injection eo35 with f1_ f2_ f3_; have f4_ := f1_.symm; have f5_ := f3_.symm; clear f1_ f2_ f3_; subst f4_; subst f5_))
   refine hK.out _ _ ⟨(blk_cell BK156.out 0).trans rfl, (blk_cell BK156.out 1).trans rfl, (blk_cell BK157.out 0).trans rfl, (blk_cell BK157.out 1).trans rfl⟩ (fun hHeld => ?_)
   clear hK K
   refine norm_ (a' := ?_) ?_ ?_
   rotate_left
   ·
    show Act.put _ (some 30) _ = _
    simp only [Act.put, s1_, s2_, s3_, i64_w, i32_w]
    rfl
   refine one_ (i := 7) (N := some 31) #[true, true, true, true, true, true, true, true, false] rfl rfl (one_of HT_.out (by kernel_rfl)) (by decide) (fun K hK => ?_)
   refine goes_ Try.func30 (by kernel_rfl) rfl #[.bool a0_0, .slice Ao35 t167.length co35] (by rfl) rfl rfl (by (try simp only [List.map_toArray, List.map_cons, List.map_nil]); first | done | rfl | (simp only [List.length_drop, List.length_take]; rfl)) ?_
   with_reducible refine (spec_wide.calls k a0_0 (fun k_ => ((w.heap.size ≤ k_) ∧ (k_ ≠ gb156 ∧ (k_ ≠ gb157 ∧ k_ ≠ gb158)))) _ _ t167 t170 t171 _ ?side1 A24.out).mono ?_
   (case side1 => exact HO169.out)
   rintro e w36 ⟨v172, rfl, ho0, hb⟩
   refine ⟨_, rfl, ?_⟩
   have n0_ := a0_ (Kd.V_below (by (with_reducible repeat (first | apply v1_ | apply v2_ | apply v3_)); exact HO169.out) hb)
   have n1_ := a0_ (Kd.V_lower (v4_ (ok' := fun k_ => (w.heap.size ≤ k_) ∧ k_ ≠ gb156 ∧ k_ ≠ gb157 ∧ k_ ≠ gb158) ho0 (fun k_ hk_ => ⟨Or.elim hk_ (fun hs_ => hs_.1) (fun hn_ => (Nat.le_trans (below_size (by repeat (first | (with_reducible first | exact HB.out | apply b1_ | apply b2_ | apply b3_ | refine b4_ ?_ GE156.out | refine b4_ ?_ GE157.out | refine b4_ ?_ GE158.out) | exact HB.out))) hn_)), Or.elim hk_ (fun hs_ => hs_.2.1) (fun hn_ => (Kd.freshB (g := gb156) (o := .cells #[.bool a0_0, .slice A0_1 l0_1.length c0_1] 29 (0, 0)) (by (with_reducible repeat (first | refine k1_ ?_ _ | refine k2_ ?_ | refine k3_ ?_ _)); exact BK156.out) k_ hn_)), Or.elim hk_ (fun hs_ => hs_.2.2.1) (fun hn_ => (Kd.freshB (g := gb157) (o := .cells #[.bool a1_0, .slice A1_1 l1_1.length c1_1] 29 (0, 0)) (by (with_reducible repeat (first | refine k1_ ?_ _ | refine k2_ ?_ | refine k3_ ?_ _)); exact BK157.out) k_ hn_)), Or.elim hk_ (fun hs_ => hs_.2.2.2) (fun hn_ => (Kd.freshB (g := gb158) (o := .cells #[.bool false, .slice none 0 0] 29 (0, 0)) (by (with_reducible repeat (first | refine k1_ ?_ _ | refine k2_ ?_ | refine k3_ ?_ _)); exact BK158.out) k_ hn_))⟩)) (below_size (by repeat (first | (with_reducible first | exact HB.out | apply b1_ | apply b2_ | apply b3_ | refine b4_ ?_ GE156.out | refine b4_ ?_ GE157.out | refine b4_ ?_ GE158.out) | exact HB.out))))
   have n2_ := a0_ (blk_below (g := gb156) (o := .cells #[.bool a0_0, .slice A0_1 l0_1.length c0_1] 29 (0, 0)) (by (with_reducible repeat (first | refine k1_ ?_ _ | refine k2_ ?_ | refine k3_ ?_ _)); exact BK156.out) hb)
   have n3_ := a0_ (blk_below (g := gb157) (o := .cells #[.bool a1_0, .slice A1_1 l1_1.length c1_1] 29 (0, 0)) (by (with_reducible repeat (first | refine k1_ ?_ _ | refine k2_ ?_ | refine k3_ ?_ _)); exact BK157.out) hb)
   have n4_ := a0_ (blk_below (g := gb158) (o := .cells #[.bool false, .slice none 0 0] 29 (0, 0)) (by (with_reducible repeat (first | refine k1_ ?_ _ | refine k2_ ?_ | refine k3_ ?_ _)); exact BK158.out) hb)
   have n5_ := a0_ (below_step (by repeat (first | (with_reducible first | exact HB.out | apply b1_ | apply b2_ | apply b3_ | refine b4_ ?_ GE156.out | refine b4_ ?_ GE157.out | refine b4_ ?_ GE158.out) | exact HB.out)) hb)
   clear HO169
   clear BK156
   clear BK157
   clear BK158
   clear HB
   have HO169 := n0_
   have HO173 := n1_
   have BK156 := n2_
   have BK157 := n3_
   have BK158 := n4_
   have HB := n5_
   clear n0_ n1_ n2_ n3_ n4_ n5_
   (try clear hb)
   (try clear hb2)
   (try clear hk)
   (try clear hi)
   (try clear ho0)
   obtain ⟨Ao38, co38, eo38⟩ := Kd.V_slice HO173.out
   (first | subst eo38 | (injection eo38 with f1_ f2_ f3_; have f4_ := f1_.symm; have f5_ := f3_.symm; clear f1_ f2_ f3_; subst f4_; subst f5_))
   refine hK.out _ _ ⟨(blk_cell BK156.out 0).trans rfl, (blk_cell BK156.out 1).trans rfl, (blk_cell BK157.out 0).trans rfl, (blk_cell BK157.out 1).trans rfl⟩ (fun hHeld => ?_)
   clear hK K
   refine norm_ (a' := ?_) ?_ ?_
   rotate_left
   ·
    show Act.put _ (some 31) _ = _
    simp only [Act.put, s1_, s2_, s3_, i64_w, i32_w]
    rfl
   refine one_ (i := 8) (N := none) #[true, true, true, true, true, true, true, true, true] rfl rfl (one_of HT_.out (by kernel_rfl)) (by decide) (fun K hK => ?_)
   have hs37 : w36.cell? ⟨gb158, 0, none⟩ = some (.bool false) := (blk_cell BK158.out 0).trans rfl
   have hfs37 := blk_frozen BK158.out 0
   have hns37_0 := NB156_158.out
   have hns37_1 := NB157_158.out
   have hms37_0 := NB158_156.out
   have hms37_1 := NB158_157.out
   have hs39 : w36.cell? ⟨gb158, 1, none⟩ = some (.slice none 0 0) := (blk_cell BK158.out 1).trans rfl
   have hfs39 := blk_frozen BK158.out 1
   have hns39_0 := NB156_158.out
   have hns39_1 := NB157_158.out
   have hms39_0 := NB158_156.out
   have hms39_1 := NB158_157.out
   refine skip_ (w1 := ?_) (by rfl) rfl ?_ ?_
   rotate_left
   ·
    go_simp
    rfl
   refine hK.out _ _ ⟨((cell_far (p := ⟨gb158, _, none⟩) NB156_158.out _).trans (((cell_far (p := ⟨gb158, _, none⟩) NB156_158.out _).trans (hHeld.1)))), ((cell_far (p := ⟨gb158, _, none⟩) NB156_158.out _).trans (((cell_far (p := ⟨gb158, _, none⟩) NB156_158.out _).trans (hHeld.2.1)))), ((cell_far (p := ⟨gb158, _, none⟩) NB157_158.out _).trans (((cell_far (p := ⟨gb158, _, none⟩) NB157_158.out _).trans (hHeld.2.2.1)))), ((cell_far (p := ⟨gb158, _, none⟩) NB157_158.out _).trans (((cell_far (p := ⟨gb158, _, none⟩) NB157_158.out _).trans (hHeld.2.2.2))))⟩ (fun hHeld => ?_)
   clear hK K
   refine done_ (done_of HT_.out (by kernel_rfl)) ?_
   try go_wp2
   refine bodyPost_ret (results_cell_row rfl _ _ gb158 29 #[.bool t170, .slice Ao38 t171.length co38] (0, 0) _ rfl (by (with_reducible repeat (first | refine k1_ ?_ _ | refine k2_ ?_ | refine k3_ ?_ _)); refine blk_put (cs := #[.bool t170, .slice none 0 0]) ?_ 1 _ rfl; (with_reducible repeat (first | refine k1_ ?_ _ | refine k2_ ?_ | refine k3_ ?_ _)); refine blk_put (cs := #[.bool false, .slice none 0 0]) ?_ 0 _ rfl; (with_reducible repeat (first | refine k1_ ?_ _ | refine k2_ ?_ | refine k3_ ?_ _)); exact BK158.out) Try.underlying29 rfl (by kernel_rfl)) rfl ?_
   exact ⟨_, by first | rfl | (simp [e1_, e2_] <;> rfl) | (simp [*, e1_, e2_] <;> rfl), by (with_reducible repeat (first | apply v1_ | apply v2_ | apply v3_)); exact v4_ (v5_ (p := ⟨gb158, 1, none⟩) (v5_ (p := ⟨gb158, 0, none⟩) (v4_ HO173.out (fun k_ hk => (⟨hk, hk.2.2.2⟩ : _ ∧ k_ ≠ gb158))) (fun _ hk => hk.2) (.bool t170)) (fun _ hk => hk.2) (.slice Ao38 t171.length co38)) (fun _ hk => hk.1.1), by repeat (first | (with_reducible first | exact HB.out | apply b1_ | apply b2_ | apply b3_ | refine b4_ ?_ GE156.out | refine b4_ ?_ GE157.out | refine b4_ ?_ GE158.out) | exact HB.out)⟩
  ·
   rw [if_neg c22] at H
   have c22b0 : decide (0 ≤ t166) = false := d3_ c22
   clear c22
   replace H := Option.bind_eq_some_iff.mp H
   obtain ⟨t174, A400, H⟩ := H
   replace H : ((spec_wide.f k a1_0 t174).bind fun bt177 => (some (bt177.1, bt177.2))) = some (r1, r2) := H
   have A40 := a0_ A400
   clear A400
   replace H := Option.bind_eq_some_iff.mp H
   obtain ⟨⟨t177, t178⟩, A410, H⟩ := H
   replace H : (some (t177, t178)) = some (r1, r2) := H
   have A41 := a0_ A410
   clear A410
   simp only [Option.some.injEq, Prod.mk.injEq] at H
   obtain ⟨rfl, rfl⟩ := H
   go_enter Try.func17, Try.ntmps17
   try go_wp2_with (first | ((with_reducible refine gate_dst (N := 2) rfl ?_); refine box_event ?hg (N := 2) ?hd (cs := #[.bool a0_0, .slice A0_1 l0_1.length c0_1]) (t := 29) ?hr ?_; (case hd => rfl); (case hg => rfl); (case hr => first | (go_simp; done) | (go_simp; rfl)); intro gb156 hg w42 hbox hb; have n0_ := a0_ (below_step (by repeat (first | (with_reducible first | exact HB.out | apply b1_ | apply b2_ | apply b3_) | exact HB.out)) hb); have n1_ := a0_ (hbox); have n2_ := a0_ ((by rw [hg]; exact (below_size (by repeat (first | (with_reducible first | exact HB.out | apply b1_ | apply b2_ | apply b3_) | exact HB.out))) : w.heap.size ≤ gb156)); have n3_ := a0_ ((by rw [hg]; exact (below_size (by repeat (first | (with_reducible first | exact HB.out | apply b1_ | apply b2_ | apply b3_) | exact HB.out))) : w.heap.size ≤ gb156)); clear HB; have HB := n0_; have BK156 := n1_; have GW156 := n2_; have GE156 := n3_; clear n0_ n1_ n2_ n3_; clear hb hbox hg) | ((with_reducible refine gate_dst (N := 3) rfl ?_); refine box_event ?hg (N := 3) ?hd (cs := #[.bool a1_0, .slice A1_1 l1_1.length c1_1]) (t := 29) ?hr ?_; (case hd => rfl); (case hg => rfl); (case hr => first | (go_simp; done) | (go_simp; rfl)); intro gb157 hg w43 hbox hb; have n0_ := a0_ (blk_below (g := gb156) (o := .cells #[.bool a0_0, .slice A0_1 l0_1.length c0_1] 29 (0, 0)) (by (with_reducible repeat (first | refine k1_ ?_ _ | refine k2_ ?_ | refine k3_ ?_ _)); exact BK156.out) hb); have n1_ := a0_ (below_step (by repeat (first | (with_reducible first | exact HB.out | apply b1_ | apply b2_ | apply b3_ | refine b4_ ?_ GE156.out) | exact HB.out)) hb); have n2_ := a0_ (hbox); have n3_ := a0_ ((by rw [hg]; exact (below_size (by repeat (first | (with_reducible first | exact HB.out | apply b1_ | apply b2_ | apply b3_ | refine b4_ ?_ GE156.out) | exact HB.out))) : w.heap.size ≤ gb157)); have n4_ := a0_ ((by rw [hg]; exact (below_size (by repeat (first | (with_reducible first | exact HB.out | apply b1_ | apply b2_ | apply b3_ | refine b4_ ?_ GE156.out) | exact HB.out))) : w.heap.size ≤ gb157)); have n5_ := a0_ ((by rw [hg]; exact Nat.ne_of_lt (blk_lt (g := gb156) (o := .cells #[.bool a0_0, .slice A0_1 l0_1.length c0_1] 29 (0, 0)) (by (with_reducible repeat (first | refine k1_ ?_ _ | refine k2_ ?_ | refine k3_ ?_ _)); exact BK156.out)) : gb156 ≠ gb157)); have n6_ := a0_ ((by rw [hg]; exact Nat.ne_of_gt (blk_lt (g := gb156) (o := .cells #[.bool a0_0, .slice A0_1 l0_1.length c0_1] 29 (0, 0)) (by (with_reducible repeat (first | refine k1_ ?_ _ | refine k2_ ?_ | refine k3_ ?_ _)); exact BK156.out)) : gb157 ≠ gb156)); clear BK156; clear HB; have BK156 := n0_; have HB := n1_; have BK157 := n2_; have GW157 := n3_; have GE157 := n4_; have NB156_157 := n5_; have NB157_156 := n6_; clear n0_ n1_ n2_ n3_ n4_ n5_ n6_; clear hb hbox hg) | ((with_reducible refine gate_dst (N := 4) rfl ?_); refine box_event ?hg (N := 4) ?hd (cs := #[.bool false, .slice none 0 0]) (t := 29) ?hr ?_; (case hd => rfl); (case hg => rfl); (case hr => first | (go_simp; done) | (go_simp; rfl)); intro gb158 hg w44 hbox hb; have n0_ := a0_ (blk_below (g := gb156) (o := .cells #[.bool a0_0, .slice A0_1 l0_1.length c0_1] 29 (0, 0)) (by (with_reducible repeat (first | refine k1_ ?_ _ | refine k2_ ?_ | refine k3_ ?_ _)); exact BK156.out) hb); have n1_ := a0_ (blk_below (g := gb157) (o := .cells #[.bool a1_0, .slice A1_1 l1_1.length c1_1] 29 (0, 0)) (by (with_reducible repeat (first | refine k1_ ?_ _ | refine k2_ ?_ | refine k3_ ?_ _)); exact BK157.out) hb); have n2_ := a0_ (below_step (by repeat (first | (with_reducible first | exact HB.out | apply b1_ | apply b2_ | apply b3_ | refine b4_ ?_ GE156.out | refine b4_ ?_ GE157.out) | exact HB.out)) hb); have n3_ := a0_ (hbox); have n4_ := a0_ ((by rw [hg]; exact (below_size (by repeat (first | (with_reducible first | exact HB.out | apply b1_ | apply b2_ | apply b3_ | refine b4_ ?_ GE156.out | refine b4_ ?_ GE157.out) | exact HB.out))) : w.heap.size ≤ gb158)); have n5_ := a0_ ((by rw [hg]; exact (below_size (by repeat (first | (with_reducible first | exact HB.out | apply b1_ | apply b2_ | apply b3_ | refine b4_ ?_ GE156.out | refine b4_ ?_ GE157.out) | exact HB.out))) : w.heap.size ≤ gb158)); have n6_ := a0_ ((by rw [hg]; exact Nat.ne_of_lt (blk_lt (g := gb156) (o := .cells #[.bool a0_0, .slice A0_1 l0_1.length c0_1] 29 (0, 0)) (by (with_reducible repeat (first | refine k1_ ?_ _ | refine k2_ ?_ | refine k3_ ?_ _)); exact BK156.out)) : gb156 ≠ gb158)); have n7_ := a0_ ((by rw [hg]; exact Nat.ne_of_gt (blk_lt (g := gb156) (o := .cells #[.bool a0_0, .slice A0_1 l0_1.length c0_1] 29 (0, 0)) (by (with_reducible repeat (first | refine k1_ ?_ _ | refine k2_ ?_ | refine k3_ ?_ _)); exact BK156.out)) : gb158 ≠ gb156)); have n8_ := a0_ ((by rw [hg]; exact Nat.ne_of_lt (blk_lt (g := gb157) (o := .cells #[.bool a1_0, .slice A1_1 l1_1.length c1_1] 29 (0, 0)) (by (with_reducible repeat (first | refine k1_ ?_ _ | refine k2_ ?_ | refine k3_ ?_ _)); exact BK157.out)) : gb157 ≠ gb158)); have n9_ := a0_ ((by rw [hg]; exact Nat.ne_of_gt (blk_lt (g := gb157) (o := .cells #[.bool a1_0, .slice A1_1 l1_1.length c1_1] 29 (0, 0)) (by (with_reducible repeat (first | refine k1_ ?_ _ | refine k2_ ?_ | refine k3_ ?_ _)); exact BK157.out)) : gb158 ≠ gb157)); clear BK156; clear BK157; clear HB; have BK156 := n0_; have BK157 := n1_; have HB := n2_; have BK158 := n3_; have GW158 := n4_; have GE158 := n5_; have NB156_158 := n6_; have NB158_156 := n7_; have NB157_158 := n8_; have NB158_157 := n9_; clear n0_ n1_ n2_ n3_ n4_ n5_ n6_ n7_ n8_ n9_; clear hb hbox hg; have hnb45 := NB156_157.out; have hnc45 := NB157_156.out; have hnb46 := NB156_158.out; have hnc46 := NB158_156.out; have hcz47_0 : w44.cell? ⟨gb156, 0, none⟩ = some (.bool a0_0) := (blk_cell BK156.out 0).trans rfl; have hcz47_1 : w44.cell? ⟨gb156, 1, none⟩ = some (.slice A0_1 l0_1.length c0_1) := (blk_cell BK156.out 1).trans rfl; have hfz47_0 := blk_frozen BK156.out 0; have hfz47_1 := blk_frozen BK156.out 1; have hnb48 := NB157_158.out; have hnc48 := NB158_157.out; have hcz49_0 : w44.cell? ⟨gb157, 0, none⟩ = some (.bool a1_0) := (blk_cell BK157.out 0).trans rfl; have hcz49_1 : w44.cell? ⟨gb157, 1, none⟩ = some (.slice A1_1 l1_1.length c1_1) := (blk_cell BK157.out 1).trans rfl; have hfz49_0 := blk_frozen BK157.out 0; have hfz49_1 := blk_frozen BK157.out 1) | ((with_reducible refine gate_callee (f := 39) rfl ?_); refine goesL_ (some 22) rfl rfl Try.func39 (by kernel_rfl) rfl #[.slice A0_1 l0_1.length c0_1, .slice A1_1 l1_1.length c1_1] rfl (by (try simp only [List.map_toArray, List.map_cons, List.map_nil]); first | done | rfl | (simp only [List.length_drop, List.length_take]; rfl)) ?_; (with_reducible refine (spec_magCmp.calls k _ _ l0_1 _ _ l1_1 t166 _ ?side1 ?side2 ?side3 ?side4 A21.out).mono ?_); (case side1 => repeat (first | exact (Kd.C_below HR0_1.out HB.out) | (with_reducible refine Kd.C_alloc ?_ _) | (with_reducible refine Kd.C_drewN ?_ _) | (with_reducible refine Kd.C_drew ?_))); (case side2 => exact HC0_1.out); (case side3 => repeat (first | exact (Kd.C_below HR1_1.out HB.out) | (with_reducible refine Kd.C_alloc ?_ _) | (with_reducible refine Kd.C_drewN ?_ _) | (with_reducible refine Kd.C_drew ?_))); (case side4 => exact HC1_1.out); rintro e w' ⟨rfl, ⟨nd, rfl⟩⟩; refine ⟨_, rfl, ?_⟩; (try (rw [drewN_self w44]; generalize hq_ : World.drewN w44 _ = w44; have n0_ : Aside0 (w44.heap[gb156]? = some (.cells #[.bool a0_0, .slice A0_1 l0_1.length c0_1] 29 (0, 0))) := ⟨by rw [← hq_]; exact (by (with_reducible repeat (first | refine k1_ ?_ _ | refine k2_ ?_ | refine k3_ ?_ _)); exact BK156.out)⟩; have n1_ : Aside0 (w44.heap[gb157]? = some (.cells #[.bool a1_0, .slice A1_1 l1_1.length c1_1] 29 (0, 0))) := ⟨by rw [← hq_]; exact (by (with_reducible repeat (first | refine k1_ ?_ _ | refine k2_ ?_ | refine k3_ ?_ _)); exact BK157.out)⟩; have n2_ : Aside0 (w44.heap[gb158]? = some (.cells #[.bool false, .slice none 0 0] 29 (0, 0))) := ⟨by rw [← hq_]; exact (by (with_reducible repeat (first | refine k1_ ?_ _ | refine k2_ ?_ | refine k3_ ?_ _)); exact BK158.out)⟩; have n3_ : Aside0 (Below w.heap.size w w44) := ⟨by rw [← hq_]; exact (by repeat (first | (with_reducible first | exact HB.out | apply b1_ | apply b2_ | apply b3_ | refine b4_ ?_ GE156.out | refine b4_ ?_ GE157.out | refine b4_ ?_ GE158.out) | exact HB.out))⟩; clear BK156 BK157 BK158 HB hq_; have BK156 := n0_; have BK157 := n1_; have BK158 := n2_; have HB := n3_; clear n0_ n1_ n2_ n3_))))
   have n0_ := a0_ (k2_ BK156.out)
   have n1_ := a0_ (k2_ BK157.out)
   have n2_ := a0_ (k2_ BK158.out)
   have n3_ := a0_ (b3_ HB.out)
   clear BK156
   clear BK157
   clear BK158
   clear HB
   have BK156 := n0_
   have BK157 := n1_
   have BK158 := n2_
   have HB := n3_
   clear n0_ n1_ n2_ n3_
   refine start_ (n := 9) (S := fun w' => w'.cell? ⟨gb157, 0, none⟩ = some (.bool a1_0) ∧ w'.cell? ⟨gb157, 1, none⟩ = some (.slice A1_1 l1_1.length c1_1) ∧ w'.cell? ⟨gb156, 0, none⟩ = some (.bool a0_0) ∧ w'.cell? ⟨gb156, 1, none⟩ = some (.slice A0_1 l0_1.length c0_1)) (ds := []) #[false, false, false, false, false, false, false, false, false] (by kernel_rfl) rfl rfl ⟨(blk_cell BK157.out 0).trans rfl, (blk_cell BK157.out 1).trans rfl, (blk_cell BK156.out 0).trans rfl, (blk_cell BK156.out 1).trans rfl⟩ (fun hHeld => ?_); refine with_tabW spec_WideAdd.tab5 spec_WideAdd.bits5 (fun HT_ HW_ => ?_)
   generalize w44.drew = w50 at BK156 BK157 BK158 HB hHeld ⊢
   refine pure_ (i := 0) (N := some 32) (v := ?_) (a' := ?_) #[true, false, false, false, false, false, false, false, false] rfl rfl (any_of HT_.out (by kernel_rfl)) (fun _ _ _ h => h) (Or.inl ⟨by rfl, ?_⟩) ?_ ?_
   rotate_left
   ·
    intro w'
    go_simp
    with_reducible rfl
   rotate_left
   ·
    simp only [Act.put, s1_, s2_, s3_, i64_w, i32_w]
    rfl
   refine pure_ (i := 2) (N := some 34) (v := ?_) (a' := ?_) #[true, false, true, false, false, false, false, false, false] rfl rfl (any_of HT_.out (by kernel_rfl)) (fun _ _ _ h => h) (Or.inl ⟨by rfl, ?_⟩) ?_ ?_
   rotate_left
   ·
    intro w'
    go_simp
    with_reducible rfl
   rotate_left
   ·
    simp only [Act.put, s1_, s2_, s3_, i64_w, i32_w]
    rfl
   refine pure_ (i := 4) (N := some 36) (v := ?_) (a' := ?_) #[true, false, true, false, true, false, false, false, false] rfl rfl (any_of HT_.out (by kernel_rfl)) (fun _ _ _ h => h) (Or.inl ⟨by rfl, ?_⟩) ?_ ?_
   rotate_left
   ·
    intro w'
    go_simp
    with_reducible rfl
   rotate_left
   ·
    simp only [Act.put, s1_, s2_, s3_, i64_w, i32_w]
    rfl
   refine take_ (i := 1) (N := some 33) (v := ?_) (a' := ?_) #[true, true, true, false, true, false, false, false, false] rfl rfl (take_ofW HT_.out HW_.out (by kernel_rfl)) (fun _ _ _ h => h) (Or.inl ⟨by rfl, ?_⟩) hHeld ?_ ?_
   rotate_left
   ·
    rintro w' ⟨s0, s1, s2, s3⟩
    go_simp
    with_reducible rfl
   rotate_left
   ·
    simp only [Act.put, s1_, s2_, s3_, i64_w, i32_w]
    rfl
   refine take_ (i := 3) (N := some 35) (v := ?_) (a' := ?_) #[true, true, true, true, true, false, false, false, false] rfl rfl (take_ofW HT_.out HW_.out (by kernel_rfl)) (fun _ _ _ h => h) (Or.inl ⟨by rfl, ?_⟩) hHeld ?_ ?_
   rotate_left
   ·
    rintro w' ⟨s0, s1, s2, s3⟩
    go_simp
    with_reducible rfl
   rotate_left
   ·
    simp only [Act.put, s1_, s2_, s3_, i64_w, i32_w]
    rfl
   refine take_ (i := 5) (N := some 37) (v := ?_) (a' := ?_) #[true, true, true, true, true, true, false, false, false] rfl rfl (take_ofW HT_.out HW_.out (by kernel_rfl)) (fun _ _ _ h => h) (Or.inl ⟨by rfl, ?_⟩) hHeld ?_ ?_
   rotate_left
   ·
    rintro w' ⟨s0, s1, s2, s3⟩
    go_simp
    with_reducible rfl
   rotate_left
   ·
    simp only [Act.put, s1_, s2_, s3_, i64_w, i32_w]
    rfl
   refine one_ (i := 6) (N := some 38) #[true, true, true, true, true, true, true, false, false] rfl rfl (one_of HT_.out (by kernel_rfl)) (by decide) (fun K hK => ?_)
   refine goes_ Try.func40 (by kernel_rfl) rfl #[.slice A1_1 l1_1.length c1_1, .slice A0_1 l0_1.length c0_1] (by rfl) rfl rfl (by (try simp only [List.map_toArray, List.map_cons, List.map_nil]); first | done | rfl | (simp only [List.length_drop, List.length_take]; rfl)) ?_
   with_reducible refine (spec_magSub.calls k _ _ l1_1 _ _ l0_1 t174 _ ?side1 ?side2 ?side3 ?side4 A40.out).mono ?_
   (case side1 => repeat (first | exact (Kd.C_below HR1_1.out HB.out) | (with_reducible refine Kd.C_alloc ?_ _) | (with_reducible refine Kd.C_drewN ?_ _) | (with_reducible refine Kd.C_drew ?_)))
   (case side2 => exact HC1_1.out)
   (case side3 => repeat (first | exact (Kd.C_below HR0_1.out HB.out) | (with_reducible refine Kd.C_alloc ?_ _) | (with_reducible refine Kd.C_drewN ?_ _) | (with_reducible refine Kd.C_drew ?_)))
   (case side4 => exact HC0_1.out)
   rintro e w51 ⟨v175, rfl, ho0, hb⟩
   refine ⟨_, rfl, ?_⟩
   have n0_ := a0_ (Kd.V_lower (v4_ (ok' := fun k_ => (w.heap.size ≤ k_) ∧ k_ ≠ gb156 ∧ k_ ≠ gb157 ∧ k_ ≠ gb158) ho0 (fun k_ hk_ => ⟨(Nat.le_trans (below_size (by repeat (first | (with_reducible first | exact HB.out | apply b1_ | apply b2_ | apply b3_ | refine b4_ ?_ GE156.out | refine b4_ ?_ GE157.out | refine b4_ ?_ GE158.out) | exact HB.out))) hk_), (Kd.freshB (g := gb156) (o := .cells #[.bool a0_0, .slice A0_1 l0_1.length c0_1] 29 (0, 0)) (by (with_reducible repeat (first | refine k1_ ?_ _ | refine k2_ ?_ | refine k3_ ?_ _)); exact BK156.out) k_ hk_), (Kd.freshB (g := gb157) (o := .cells #[.bool a1_0, .slice A1_1 l1_1.length c1_1] 29 (0, 0)) (by (with_reducible repeat (first | refine k1_ ?_ _ | refine k2_ ?_ | refine k3_ ?_ _)); exact BK157.out) k_ hk_), (Kd.freshB (g := gb158) (o := .cells #[.bool false, .slice none 0 0] 29 (0, 0)) (by (with_reducible repeat (first | refine k1_ ?_ _ | refine k2_ ?_ | refine k3_ ?_ _)); exact BK158.out) k_ hk_)⟩)) (below_size (by repeat (first | (with_reducible first | exact HB.out | apply b1_ | apply b2_ | apply b3_ | refine b4_ ?_ GE156.out | refine b4_ ?_ GE157.out | refine b4_ ?_ GE158.out) | exact HB.out))))
   have n1_ := a0_ (blk_below (g := gb156) (o := .cells #[.bool a0_0, .slice A0_1 l0_1.length c0_1] 29 (0, 0)) (by (with_reducible repeat (first | refine k1_ ?_ _ | refine k2_ ?_ | refine k3_ ?_ _)); exact BK156.out) hb)
   have n2_ := a0_ (blk_below (g := gb157) (o := .cells #[.bool a1_0, .slice A1_1 l1_1.length c1_1] 29 (0, 0)) (by (with_reducible repeat (first | refine k1_ ?_ _ | refine k2_ ?_ | refine k3_ ?_ _)); exact BK157.out) hb)
   have n3_ := a0_ (blk_below (g := gb158) (o := .cells #[.bool false, .slice none 0 0] 29 (0, 0)) (by (with_reducible repeat (first | refine k1_ ?_ _ | refine k2_ ?_ | refine k3_ ?_ _)); exact BK158.out) hb)
   have n4_ := a0_ (below_step (by repeat (first | (with_reducible first | exact HB.out | apply b1_ | apply b2_ | apply b3_ | refine b4_ ?_ GE156.out | refine b4_ ?_ GE157.out | refine b4_ ?_ GE158.out) | exact HB.out)) hb)
   clear BK156
   clear BK157
   clear BK158
   clear HB
   have HO176 := n0_
   have BK156 := n1_
   have BK157 := n2_
   have BK158 := n3_
   have HB := n4_
   clear n0_ n1_ n2_ n3_ n4_
   (try clear hb)
   (try clear hb2)
   (try clear hk)
   (try clear hi)
   (try clear ho0)
   obtain ⟨Ao52, co52, eo52⟩ := Kd.V_slice HO176.out
   (first | subst eo52 | (injection eo52 with f1_ f2_ f3_; have f4_ := f1_.symm; have f5_ := f3_.symm; clear f1_ f2_ f3_; subst f4_; subst f5_))
   refine hK.out _ _ ⟨(blk_cell BK157.out 0).trans rfl, (blk_cell BK157.out 1).trans rfl, (blk_cell BK156.out 0).trans rfl, (blk_cell BK156.out 1).trans rfl⟩ (fun hHeld => ?_)
   clear hK K
   refine norm_ (a' := ?_) ?_ ?_
   rotate_left
   ·
    show Act.put _ (some 38) _ = _
    simp only [Act.put, s1_, s2_, s3_, i64_w, i32_w]
    rfl
   refine one_ (i := 7) (N := some 39) #[true, true, true, true, true, true, true, true, false] rfl rfl (one_of HT_.out (by kernel_rfl)) (by decide) (fun K hK => ?_)
   refine goes_ Try.func30 (by kernel_rfl) rfl #[.bool a1_0, .slice Ao52 t174.length co52] (by rfl) rfl rfl (by (try simp only [List.map_toArray, List.map_cons, List.map_nil]); first | done | rfl | (simp only [List.length_drop, List.length_take]; rfl)) ?_
   with_reducible refine (spec_wide.calls k a1_0 (fun k_ => ((w.heap.size ≤ k_) ∧ (k_ ≠ gb156 ∧ (k_ ≠ gb157 ∧ k_ ≠ gb158)))) _ _ t174 t177 t178 _ ?side1 A41.out).mono ?_
   (case side1 => exact HO176.out)
   rintro e w53 ⟨v179, rfl, ho0, hb⟩
   refine ⟨_, rfl, ?_⟩
   have n0_ := a0_ (Kd.V_below (by (with_reducible repeat (first | apply v1_ | apply v2_ | apply v3_)); exact HO176.out) hb)
   have n1_ := a0_ (Kd.V_lower (v4_ (ok' := fun k_ => (w.heap.size ≤ k_) ∧ k_ ≠ gb156 ∧ k_ ≠ gb157 ∧ k_ ≠ gb158) ho0 (fun k_ hk_ => ⟨Or.elim hk_ (fun hs_ => hs_.1) (fun hn_ => (Nat.le_trans (below_size (by repeat (first | (with_reducible first | exact HB.out | apply b1_ | apply b2_ | apply b3_ | refine b4_ ?_ GE156.out | refine b4_ ?_ GE157.out | refine b4_ ?_ GE158.out) | exact HB.out))) hn_)), Or.elim hk_ (fun hs_ => hs_.2.1) (fun hn_ => (Kd.freshB (g := gb156) (o := .cells #[.bool a0_0, .slice A0_1 l0_1.length c0_1] 29 (0, 0)) (by (with_reducible repeat (first | refine k1_ ?_ _ | refine k2_ ?_ | refine k3_ ?_ _)); exact BK156.out) k_ hn_)), Or.elim hk_ (fun hs_ => hs_.2.2.1) (fun hn_ => (Kd.freshB (g := gb157) (o := .cells #[.bool a1_0, .slice A1_1 l1_1.length c1_1] 29 (0, 0)) (by (with_reducible repeat (first | refine k1_ ?_ _ | refine k2_ ?_ | refine k3_ ?_ _)); exact BK157.out) k_ hn_)), Or.elim hk_ (fun hs_ => hs_.2.2.2) (fun hn_ => (Kd.freshB (g := gb158) (o := .cells #[.bool false, .slice none 0 0] 29 (0, 0)) (by (with_reducible repeat (first | refine k1_ ?_ _ | refine k2_ ?_ | refine k3_ ?_ _)); exact BK158.out) k_ hn_))⟩)) (below_size (by repeat (first | (with_reducible first | exact HB.out | apply b1_ | apply b2_ | apply b3_ | refine b4_ ?_ GE156.out | refine b4_ ?_ GE157.out | refine b4_ ?_ GE158.out) | exact HB.out))))
   have n2_ := a0_ (blk_below (g := gb156) (o := .cells #[.bool a0_0, .slice A0_1 l0_1.length c0_1] 29 (0, 0)) (by (with_reducible repeat (first | refine k1_ ?_ _ | refine k2_ ?_ | refine k3_ ?_ _)); exact BK156.out) hb)
   have n3_ := a0_ (blk_below (g := gb157) (o := .cells #[.bool a1_0, .slice A1_1 l1_1.length c1_1] 29 (0, 0)) (by (with_reducible repeat (first | refine k1_ ?_ _ | refine k2_ ?_ | refine k3_ ?_ _)); exact BK157.out) hb)
   have n4_ := a0_ (blk_below (g := gb158) (o := .cells #[.bool false, .slice none 0 0] 29 (0, 0)) (by (with_reducible repeat (first | refine k1_ ?_ _ | refine k2_ ?_ | refine k3_ ?_ _)); exact BK158.out) hb)
   have n5_ := a0_ (below_step (by repeat (first | (with_reducible first | exact HB.out | apply b1_ | apply b2_ | apply b3_ | refine b4_ ?_ GE156.out | refine b4_ ?_ GE157.out | refine b4_ ?_ GE158.out) | exact HB.out)) hb)
   clear HO176
   clear BK156
   clear BK157
   clear BK158
   clear HB
   have HO176 := n0_
   have HO180 := n1_
   have BK156 := n2_
   have BK157 := n3_
   have BK158 := n4_
   have HB := n5_
   clear n0_ n1_ n2_ n3_ n4_ n5_
   (try clear hb)
   (try clear hb2)
   (try clear hk)
   (try clear hi)
   (try clear ho0)
   obtain ⟨Ao55, co55, eo55⟩ := Kd.V_slice HO180.out
   (first | subst eo55 | (injection eo55 with f1_ f2_ f3_; have f4_ := f1_.symm; have f5_ := f3_.symm; clear f1_ f2_ f3_; subst f4_; subst f5_))
   refine hK.out _ _ ⟨(blk_cell BK157.out 0).trans rfl, (blk_cell BK157.out 1).trans rfl, (blk_cell BK156.out 0).trans rfl, (blk_cell BK156.out 1).trans rfl⟩ (fun hHeld => ?_)
   clear hK K
   refine norm_ (a' := ?_) ?_ ?_
   rotate_left
   ·
    show Act.put _ (some 39) _ = _
    simp only [Act.put, s1_, s2_, s3_, i64_w, i32_w]
    rfl
   refine one_ (i := 8) (N := none) #[true, true, true, true, true, true, true, true, true] rfl rfl (one_of HT_.out (by kernel_rfl)) (by decide) (fun K hK => ?_)
   have hs54 : w53.cell? ⟨gb158, 0, none⟩ = some (.bool false) := (blk_cell BK158.out 0).trans rfl
   have hfs54 := blk_frozen BK158.out 0
   have hns54_0 := NB156_158.out
   have hns54_1 := NB157_158.out
   have hms54_0 := NB158_156.out
   have hms54_1 := NB158_157.out
   have hs56 : w53.cell? ⟨gb158, 1, none⟩ = some (.slice none 0 0) := (blk_cell BK158.out 1).trans rfl
   have hfs56 := blk_frozen BK158.out 1
   have hns56_0 := NB156_158.out
   have hns56_1 := NB157_158.out
   have hms56_0 := NB158_156.out
   have hms56_1 := NB158_157.out
   refine skip_ (w1 := ?_) (by rfl) rfl ?_ ?_
   rotate_left
   ·
    go_simp
    rfl
   refine hK.out _ _ ⟨((cell_far (p := ⟨gb158, _, none⟩) NB157_158.out _).trans (((cell_far (p := ⟨gb158, _, none⟩) NB157_158.out _).trans (hHeld.1)))), ((cell_far (p := ⟨gb158, _, none⟩) NB157_158.out _).trans (((cell_far (p := ⟨gb158, _, none⟩) NB157_158.out _).trans (hHeld.2.1)))), ((cell_far (p := ⟨gb158, _, none⟩) NB156_158.out _).trans (((cell_far (p := ⟨gb158, _, none⟩) NB156_158.out _).trans (hHeld.2.2.1)))), ((cell_far (p := ⟨gb158, _, none⟩) NB156_158.out _).trans (((cell_far (p := ⟨gb158, _, none⟩) NB156_158.out _).trans (hHeld.2.2.2))))⟩ (fun hHeld => ?_)
   clear hK K
   refine done_ (done_of HT_.out (by kernel_rfl)) ?_
   try go_wp2
   refine bodyPost_ret (results_cell_row rfl _ _ gb158 29 #[.bool t177, .slice Ao55 t178.length co55] (0, 0) _ rfl (by (with_reducible repeat (first | refine k1_ ?_ _ | refine k2_ ?_ | refine k3_ ?_ _)); refine blk_put (cs := #[.bool t177, .slice none 0 0]) ?_ 1 _ rfl; (with_reducible repeat (first | refine k1_ ?_ _ | refine k2_ ?_ | refine k3_ ?_ _)); refine blk_put (cs := #[.bool false, .slice none 0 0]) ?_ 0 _ rfl; (with_reducible repeat (first | refine k1_ ?_ _ | refine k2_ ?_ | refine k3_ ?_ _)); exact BK158.out) Try.underlying29 rfl (by kernel_rfl)) rfl ?_
   exact ⟨_, by first | rfl | (simp [e1_, e2_] <;> rfl) | (simp [*, e1_, e2_] <;> rfl), by (with_reducible repeat (first | apply v1_ | apply v2_ | apply v3_)); exact v4_ (v5_ (p := ⟨gb158, 1, none⟩) (v5_ (p := ⟨gb158, 0, none⟩) (v4_ HO180.out (fun k_ hk => (⟨hk, hk.2.2.2⟩ : _ ∧ k_ ≠ gb158))) (fun _ hk => hk.2) (.bool t177)) (fun _ hk => hk.2) (.slice Ao55 t178.length co55)) (fun _ hk => hk.1.1), by repeat (first | (with_reducible first | exact HB.out | apply b1_ | apply b2_ | apply b3_ | refine b4_ ?_ GE156.out | refine b4_ ?_ GE157.out | refine b4_ ?_ GE158.out) | exact HB.out)⟩

/-! ### spec_WideSub: function 71 -/
def spec_WideSub.f (k : Nat) (a0_0 : Bool) (l0_1 : List Int) (a1_0 : Bool) (l1_1 : List Int) : Option (Bool × List Int) := (spec_Wide_Negated.f k a1_0 l1_1).bind fun bt184 => ((spec_WideAdd.f k a0_0 l0_1 bt184.1 bt184.2).bind fun bt188 => (some (bt188.1, bt188.2)))
set_option maxHeartbeats 8000000 in
set_option maxRecDepth 100000 in
theorem spec_WideSub.calls (k : Nat) (a0_0 : Bool) (A0_1 : Option Addr) (c0_1 : Nat) (l0_1 : List Int) (a1_0 : Bool) (P1_1_ : Nat → Prop) (A1_1 : Option Addr) (c1_1 : Nat) (l1_1 : List Int) (r1 : Bool) (r2 : List Int) (w : World) (hr0_1 : Kd.C (Kd.int .u32) w A0_1 l0_1.length l0_1) (hc0_1 : l0_1.length ≤ c0_1) (hs1_1 : Kd.V (Kd.int .u32) 96 w w.heap.size (fun k_ => P1_1_ k_) (.slice A1_1 l1_1.length c1_1) l1_1) (h : spec_WideSub.f k a0_0 l0_1 a1_0 l1_1 = some (r1, r2)) :
  Calls Try.prog 71 #[.agg #[.bool a0_0, .slice A0_1 l0_1.length c0_1], .agg #[.bool a1_0, .slice A1_1 l1_1.length c1_1]] w fun e w' => ∃ v1_ : Value, e = .returned (.agg #[.bool r1, v1_]) ∧ Kd.V (Kd.int .u32) 96 w' w.heap.size (fun k_ => (P1_1_ k_ ∨ w.heap.size ≤ k_)) v1_ r2 ∧ Below w.heap.size w w' := by
 have hu29 := Try.underlying29
 have HR0_1 := a0_ hr0_1
 have HC0_1 := a0_ hc0_1
 clear hr0_1 hc0_1
 have HO1_1 := a0_ (show Kd.V (Kd.int .u32) 96 w w.heap.size (fun k_ => (P1_1_ k_ ∨ w.heap.size ≤ k_)) (.slice A1_1 l1_1.length c1_1) l1_1 from v4_ hs1_1 (fun k_ hk => .inl hk))
 have HB := a0_ (Below.refl w.heap.size w)
 have H : ((spec_Wide_Negated.f k a1_0 l1_1).bind fun bt184 => ((spec_WideAdd.f k a0_0 l0_1 bt184.1 bt184.2).bind fun bt188 => (some (bt188.1, bt188.2)))) = some (r1, r2) := h
 clear h
 replace H := Option.bind_eq_some_iff.mp H
 obtain ⟨⟨t184, t185⟩, A30, H⟩ := H
 replace H : ((spec_WideAdd.f k a0_0 l0_1 t184 t185).bind fun bt188 => (some (bt188.1, bt188.2))) = some (r1, r2) := H
 have A3 := a0_ A30
 clear A30
 replace H := Option.bind_eq_some_iff.mp H
 obtain ⟨⟨t188, t189⟩, A40, H⟩ := H
 replace H : (some (t188, t189)) = some (r1, r2) := H
 have A4 := a0_ A40
 clear A40
 simp only [Option.some.injEq, Prod.mk.injEq] at H
 obtain ⟨rfl, rfl⟩ := H
 go_enter Try.func71, Try.ntmps71
 try go_wp2_with (first | ((with_reducible refine gate_dst (N := 2) rfl ?_); refine box_event ?hg (N := 2) ?hd (cs := #[.bool a0_0, .slice A0_1 l0_1.length c0_1]) (t := 29) ?hr ?_; (case hd => rfl); (case hg => rfl); (case hr => first | (go_simp; done) | (go_simp; rfl)); intro gb181 hg w5 hbox hb; have n0_ := a0_ (Kd.V_below (Kd.V_elderB (by (with_reducible repeat (first | apply v1_ | apply v2_ | apply v3_)); exact HO1_1.out) gb181 (Nat.le_of_eq hg.symm)) hb); have n1_ := a0_ (below_step (by repeat (first | (with_reducible first | exact HB.out | apply b1_ | apply b2_ | apply b3_) | exact HB.out)) hb); have n2_ := a0_ (hbox); have n3_ := a0_ ((by rw [hg]; exact (below_size (by repeat (first | (with_reducible first | exact HB.out | apply b1_ | apply b2_ | apply b3_) | exact HB.out))) : w.heap.size ≤ gb181)); have n4_ := a0_ ((by rw [hg]; exact (below_size (by repeat (first | (with_reducible first | exact HB.out | apply b1_ | apply b2_ | apply b3_) | exact HB.out))) : w.heap.size ≤ gb181)); clear HO1_1; clear HB; have HO1_1 := n0_; have HB := n1_; have BK181 := n2_; have GW181 := n3_; have GE181 := n4_; clear n0_ n1_ n2_ n3_ n4_; clear hb hbox hg) | ((with_reducible refine gate_dst (N := 3) rfl ?_); refine box_event ?hg (N := 3) ?hd (cs := #[.bool a1_0, .slice A1_1 l1_1.length c1_1]) (t := 29) ?hr ?_; (case hd => rfl); (case hg => rfl); (case hr => first | (go_simp; done) | (go_simp; rfl)); intro gb182 hg w6 hbox hb; have n0_ := a0_ (Kd.V_below (Kd.V_elderB (by (with_reducible repeat (first | apply v1_ | apply v2_ | apply v3_)); exact HO1_1.out) gb182 (Nat.le_of_eq hg.symm)) hb); have n1_ := a0_ (blk_below (g := gb181) (o := .cells #[.bool a0_0, .slice A0_1 l0_1.length c0_1] 29 (0, 0)) (by (with_reducible repeat (first | refine k1_ ?_ _ | refine k2_ ?_ | refine k3_ ?_ _)); exact BK181.out) hb); have n2_ := a0_ (below_step (by repeat (first | (with_reducible first | exact HB.out | apply b1_ | apply b2_ | apply b3_ | refine b4_ ?_ GE181.out) | exact HB.out)) hb); have n3_ := a0_ (hbox); have n4_ := a0_ ((by rw [hg]; exact (below_size (by repeat (first | (with_reducible first | exact HB.out | apply b1_ | apply b2_ | apply b3_ | refine b4_ ?_ GE181.out) | exact HB.out))) : w.heap.size ≤ gb182)); have n5_ := a0_ ((by rw [hg]; exact (below_size (by repeat (first | (with_reducible first | exact HB.out | apply b1_ | apply b2_ | apply b3_ | refine b4_ ?_ GE181.out) | exact HB.out))) : w.heap.size ≤ gb182)); have n6_ := a0_ ((by rw [hg]; exact Nat.ne_of_lt (blk_lt (g := gb181) (o := .cells #[.bool a0_0, .slice A0_1 l0_1.length c0_1] 29 (0, 0)) (by (with_reducible repeat (first | refine k1_ ?_ _ | refine k2_ ?_ | refine k3_ ?_ _)); exact BK181.out)) : gb181 ≠ gb182)); have n7_ := a0_ ((by rw [hg]; exact Nat.ne_of_gt (blk_lt (g := gb181) (o := .cells #[.bool a0_0, .slice A0_1 l0_1.length c0_1] 29 (0, 0)) (by (with_reducible repeat (first | refine k1_ ?_ _ | refine k2_ ?_ | refine k3_ ?_ _)); exact BK181.out)) : gb182 ≠ gb181)); clear HO1_1; clear BK181; clear HB; have HO1_1 := n0_; have BK181 := n1_; have HB := n2_; have BK182 := n3_; have GW182 := n4_; have GE182 := n5_; have NB181_182 := n6_; have NB182_181 := n7_; clear n0_ n1_ n2_ n3_ n4_ n5_ n6_ n7_; clear hb hbox hg) | ((with_reducible refine gate_dst (N := 4) rfl ?_); refine box_event ?hg (N := 4) ?hd (cs := #[.bool false, .slice none 0 0]) (t := 29) ?hr ?_; (case hd => rfl); (case hg => rfl); (case hr => first | (go_simp; done) | (go_simp; rfl)); intro gb183 hg w7 hbox hb; have n0_ := a0_ (Kd.V_below (Kd.V_elderB (by (with_reducible repeat (first | apply v1_ | apply v2_ | apply v3_)); exact HO1_1.out) gb183 (Nat.le_of_eq hg.symm)) hb); have n1_ := a0_ (blk_below (g := gb181) (o := .cells #[.bool a0_0, .slice A0_1 l0_1.length c0_1] 29 (0, 0)) (by (with_reducible repeat (first | refine k1_ ?_ _ | refine k2_ ?_ | refine k3_ ?_ _)); exact BK181.out) hb); have n2_ := a0_ (blk_below (g := gb182) (o := .cells #[.bool a1_0, .slice A1_1 l1_1.length c1_1] 29 (0, 0)) (by (with_reducible repeat (first | refine k1_ ?_ _ | refine k2_ ?_ | refine k3_ ?_ _)); exact BK182.out) hb); have n3_ := a0_ (below_step (by repeat (first | (with_reducible first | exact HB.out | apply b1_ | apply b2_ | apply b3_ | refine b4_ ?_ GE181.out | refine b4_ ?_ GE182.out) | exact HB.out)) hb); have n4_ := a0_ (hbox); have n5_ := a0_ ((by rw [hg]; exact (below_size (by repeat (first | (with_reducible first | exact HB.out | apply b1_ | apply b2_ | apply b3_ | refine b4_ ?_ GE181.out | refine b4_ ?_ GE182.out) | exact HB.out))) : w.heap.size ≤ gb183)); have n6_ := a0_ ((by rw [hg]; exact (below_size (by repeat (first | (with_reducible first | exact HB.out | apply b1_ | apply b2_ | apply b3_ | refine b4_ ?_ GE181.out | refine b4_ ?_ GE182.out) | exact HB.out))) : w.heap.size ≤ gb183)); have n7_ := a0_ ((by rw [hg]; exact Nat.ne_of_lt (blk_lt (g := gb181) (o := .cells #[.bool a0_0, .slice A0_1 l0_1.length c0_1] 29 (0, 0)) (by (with_reducible repeat (first | refine k1_ ?_ _ | refine k2_ ?_ | refine k3_ ?_ _)); exact BK181.out)) : gb181 ≠ gb183)); have n8_ := a0_ ((by rw [hg]; exact Nat.ne_of_gt (blk_lt (g := gb181) (o := .cells #[.bool a0_0, .slice A0_1 l0_1.length c0_1] 29 (0, 0)) (by (with_reducible repeat (first | refine k1_ ?_ _ | refine k2_ ?_ | refine k3_ ?_ _)); exact BK181.out)) : gb183 ≠ gb181)); have n9_ := a0_ ((by rw [hg]; exact Nat.ne_of_lt (blk_lt (g := gb182) (o := .cells #[.bool a1_0, .slice A1_1 l1_1.length c1_1] 29 (0, 0)) (by (with_reducible repeat (first | refine k1_ ?_ _ | refine k2_ ?_ | refine k3_ ?_ _)); exact BK182.out)) : gb182 ≠ gb183)); have n10_ := a0_ ((by rw [hg]; exact Nat.ne_of_gt (blk_lt (g := gb182) (o := .cells #[.bool a1_0, .slice A1_1 l1_1.length c1_1] 29 (0, 0)) (by (with_reducible repeat (first | refine k1_ ?_ _ | refine k2_ ?_ | refine k3_ ?_ _)); exact BK182.out)) : gb183 ≠ gb182)); clear HO1_1; clear BK181; clear BK182; clear HB; have HO1_1 := n0_; have BK181 := n1_; have BK182 := n2_; have HB := n3_; have BK183 := n4_; have GW183 := n5_; have GE183 := n6_; have NB181_183 := n7_; have NB183_181 := n8_; have NB182_183 := n9_; have NB183_182 := n10_; clear n0_ n1_ n2_ n3_ n4_ n5_ n6_ n7_ n8_ n9_ n10_; clear hb hbox hg))
 have n0_ := a0_ (v3_ HO1_1.out)
 have n1_ := a0_ (k2_ BK181.out)
 have n2_ := a0_ (k2_ BK182.out)
 have n3_ := a0_ (k2_ BK183.out)
 have n4_ := a0_ (b3_ HB.out)
 clear HO1_1
 clear BK181
 clear BK182
 clear BK183
 clear HB
 have HO1_1 := n0_
 have BK181 := n1_
 have BK182 := n2_
 have BK183 := n3_
 have HB := n4_
 clear n0_ n1_ n2_ n3_ n4_
 refine start_ (n := 5) (S := fun w' => w'.cell? ⟨gb181, 0, none⟩ = some (.bool a0_0) ∧ w'.cell? ⟨gb181, 1, none⟩ = some (.slice A0_1 l0_1.length c0_1) ∧ w'.cell? ⟨gb182, 0, none⟩ = some (.bool a1_0) ∧ w'.cell? ⟨gb182, 1, none⟩ = some (.slice A1_1 l1_1.length c1_1)) (ds := []) #[false, false, false, false, false] (by kernel_rfl) rfl rfl ⟨(blk_cell BK181.out 0).trans rfl, (blk_cell BK181.out 1).trans rfl, (blk_cell BK182.out 0).trans rfl, (blk_cell BK182.out 1).trans rfl⟩ (fun hHeld => ?_)
 generalize w7.drew = w8 at HO1_1 BK181 BK182 BK183 HB hHeld ⊢
 refine take_ (i := 0) (N := some 5) (v := ?_) (a' := ?_) #[true, false, false, false, false] rfl rfl (by kernel_rfl) (fun _ _ _ h => h) (Or.inl ⟨by rfl, ?_⟩) hHeld ?_ ?_
 rotate_left
 ·
  rintro w' ⟨s0, s1, s2, s3⟩
  go_simp
  with_reducible rfl
 rotate_left
 ·
  simp only [Act.put, s1_, s2_, s3_, i64_w, i32_w]
  rfl
 refine take_ (i := 1) (N := some 6) (v := ?_) (a' := ?_) #[true, true, false, false, false] rfl rfl (by kernel_rfl) (fun _ _ _ h => h) (Or.inl ⟨by rfl, ?_⟩) hHeld ?_ ?_
 rotate_left
 ·
  rintro w' ⟨s0, s1, s2, s3⟩
  go_simp
  with_reducible rfl
 rotate_left
 ·
  simp only [Act.put, s1_, s2_, s3_, i64_w, i32_w]
  rfl
 refine one_ (i := 2) (N := some 7) #[true, true, true, false, false] rfl rfl (by kernel_rfl) (by decide) (fun K hK => ?_)
 refine goes_ Try.func16 (by kernel_rfl) rfl #[.agg #[.bool a1_0, .slice A1_1 l1_1.length c1_1]] (by rfl) rfl rfl (by (try simp only [List.map_toArray, List.map_cons, List.map_nil]); first | done | rfl | (simp only [List.length_drop, List.length_take]; rfl)) ?_
 with_reducible refine (spec_Wide_Negated.calls k a1_0 (fun k_ => ((((P1_1_ k_ ∨ w.heap.size ≤ k_) ∧ k_ ≠ gb181) ∧ k_ ≠ gb182) ∧ k_ ≠ gb183)) _ _ l1_1 t184 t185 _ ?side1 A3.out).mono ?_
 (case side1 => exact HO1_1.out)
 rintro e w9 ⟨v186, rfl, ho0, hb⟩
 refine ⟨_, rfl, ?_⟩
 have n0_ := a0_ (Kd.V_below (by (with_reducible repeat (first | apply v1_ | apply v2_ | apply v3_)); exact HO1_1.out) hb)
 have n1_ := a0_ (Kd.V_lower (v4_ (ok' := fun k_ => (P1_1_ k_ ∨ w.heap.size ≤ k_) ∧ k_ ≠ gb181 ∧ k_ ≠ gb182 ∧ k_ ≠ gb183) ho0 (fun k_ hk_ => ⟨Or.elim hk_ (fun hs_ => hs_.1.1.1) (fun hn_ => (.inr (Nat.le_trans (below_size (by repeat (first | (with_reducible first | exact HB.out | apply b1_ | apply b2_ | apply b3_ | refine b4_ ?_ GE181.out | refine b4_ ?_ GE182.out | refine b4_ ?_ GE183.out) | exact HB.out))) hn_))), Or.elim hk_ (fun hs_ => hs_.1.1.2) (fun hn_ => (Kd.freshB (g := gb181) (o := .cells #[.bool a0_0, .slice A0_1 l0_1.length c0_1] 29 (0, 0)) (by (with_reducible repeat (first | refine k1_ ?_ _ | refine k2_ ?_ | refine k3_ ?_ _)); exact BK181.out) k_ hn_)), Or.elim hk_ (fun hs_ => hs_.1.2) (fun hn_ => (Kd.freshB (g := gb182) (o := .cells #[.bool a1_0, .slice A1_1 l1_1.length c1_1] 29 (0, 0)) (by (with_reducible repeat (first | refine k1_ ?_ _ | refine k2_ ?_ | refine k3_ ?_ _)); exact BK182.out) k_ hn_)), Or.elim hk_ (fun hs_ => hs_.2) (fun hn_ => (Kd.freshB (g := gb183) (o := .cells #[.bool false, .slice none 0 0] 29 (0, 0)) (by (with_reducible repeat (first | refine k1_ ?_ _ | refine k2_ ?_ | refine k3_ ?_ _)); exact BK183.out) k_ hn_))⟩)) (below_size (by repeat (first | (with_reducible first | exact HB.out | apply b1_ | apply b2_ | apply b3_ | refine b4_ ?_ GE181.out | refine b4_ ?_ GE182.out | refine b4_ ?_ GE183.out) | exact HB.out))))
 have n2_ := a0_ (blk_below (g := gb181) (o := .cells #[.bool a0_0, .slice A0_1 l0_1.length c0_1] 29 (0, 0)) (by (with_reducible repeat (first | refine k1_ ?_ _ | refine k2_ ?_ | refine k3_ ?_ _)); exact BK181.out) hb)
 have n3_ := a0_ (blk_below (g := gb182) (o := .cells #[.bool a1_0, .slice A1_1 l1_1.length c1_1] 29 (0, 0)) (by (with_reducible repeat (first | refine k1_ ?_ _ | refine k2_ ?_ | refine k3_ ?_ _)); exact BK182.out) hb)
 have n4_ := a0_ (blk_below (g := gb183) (o := .cells #[.bool false, .slice none 0 0] 29 (0, 0)) (by (with_reducible repeat (first | refine k1_ ?_ _ | refine k2_ ?_ | refine k3_ ?_ _)); exact BK183.out) hb)
 have n5_ := a0_ (below_step (by repeat (first | (with_reducible first | exact HB.out | apply b1_ | apply b2_ | apply b3_ | refine b4_ ?_ GE181.out | refine b4_ ?_ GE182.out | refine b4_ ?_ GE183.out) | exact HB.out)) hb)
 clear HO1_1
 clear BK181
 clear BK182
 clear BK183
 clear HB
 have HO1_1 := n0_
 have HO187 := n1_
 have BK181 := n2_
 have BK182 := n3_
 have BK183 := n4_
 have HB := n5_
 clear n0_ n1_ n2_ n3_ n4_ n5_
 (try clear hb)
 (try clear hb2)
 (try clear hk)
 (try clear hi)
 (try clear ho0)
 obtain ⟨Ao10, co10, eo10⟩ := Kd.V_slice HO187.out
 (first | subst eo10 | (injection eo10 with f1_ f2_ f3_; have f4_ := f1_.symm; have f5_ := f3_.symm; clear f1_ f2_ f3_; subst f4_; subst f5_))
 refine hK.out _ _ ⟨(blk_cell BK181.out 0).trans rfl, (blk_cell BK181.out 1).trans rfl, (blk_cell BK182.out 0).trans rfl, (blk_cell BK182.out 1).trans rfl⟩ (fun hHeld => ?_)
 clear hK K
 refine norm_ (a' := ?_) ?_ ?_
 rotate_left
 ·
  show Act.put _ (some 7) _ = _
  simp only [Act.put, s1_, s2_, s3_, i64_w, i32_w]
  rfl
 refine one_ (i := 3) (N := some 8) #[true, true, true, true, false] rfl rfl (by kernel_rfl) (by decide) (fun K hK => ?_)
 refine goes_ Try.func17 (by kernel_rfl) rfl #[.agg #[.bool a0_0, .slice A0_1 l0_1.length c0_1], .agg #[.bool t184, .slice Ao10 t185.length co10]] (by rfl) rfl rfl (by (try simp only [List.map_toArray, List.map_cons, List.map_nil]); first | done | rfl | (simp only [List.length_drop, List.length_take]; rfl)) ?_
 with_reducible refine (spec_WideAdd.calls k a0_0 _ _ l0_1 t184 _ _ t185 t188 t189 _ ?side1 ?side2 ?side3 ?side4 A4.out).mono ?_
 (case side1 => repeat (first | exact (Kd.C_below HR0_1.out HB.out) | (with_reducible refine Kd.C_alloc ?_ _) | (with_reducible refine Kd.C_drewN ?_ _) | (with_reducible refine Kd.C_drew ?_)))
 (case side2 => exact HC0_1.out)
 (case side3 => repeat (first | exact (Kd.V_reads' HO187.out).2.2 | (with_reducible refine Kd.C_alloc ?_ _) | (with_reducible refine Kd.C_drewN ?_ _) | (with_reducible refine Kd.C_drew ?_)))
 (case side4 => exact (Kd.V_reads' HO187.out).2.1)
 rintro e w11 ⟨v190, rfl, ho0, hb⟩
 refine ⟨_, rfl, ?_⟩
 have n0_ := a0_ (Kd.V_below (by (with_reducible repeat (first | apply v1_ | apply v2_ | apply v3_)); exact HO1_1.out) hb)
 have n1_ := a0_ (Kd.V_below (by (with_reducible repeat (first | apply v1_ | apply v2_ | apply v3_)); exact HO187.out) hb)
 have n2_ := a0_ (Kd.V_lower (v4_ (ok' := fun k_ => (P1_1_ k_ ∨ w.heap.size ≤ k_) ∧ k_ ≠ gb181 ∧ k_ ≠ gb182 ∧ k_ ≠ gb183) ho0 (fun k_ hk_ => ⟨(.inr (Nat.le_trans (below_size (by repeat (first | (with_reducible first | exact HB.out | apply b1_ | apply b2_ | apply b3_ | refine b4_ ?_ GE181.out | refine b4_ ?_ GE182.out | refine b4_ ?_ GE183.out) | exact HB.out))) hk_)), (Kd.freshB (g := gb181) (o := .cells #[.bool a0_0, .slice A0_1 l0_1.length c0_1] 29 (0, 0)) (by (with_reducible repeat (first | refine k1_ ?_ _ | refine k2_ ?_ | refine k3_ ?_ _)); exact BK181.out) k_ hk_), (Kd.freshB (g := gb182) (o := .cells #[.bool a1_0, .slice A1_1 l1_1.length c1_1] 29 (0, 0)) (by (with_reducible repeat (first | refine k1_ ?_ _ | refine k2_ ?_ | refine k3_ ?_ _)); exact BK182.out) k_ hk_), (Kd.freshB (g := gb183) (o := .cells #[.bool false, .slice none 0 0] 29 (0, 0)) (by (with_reducible repeat (first | refine k1_ ?_ _ | refine k2_ ?_ | refine k3_ ?_ _)); exact BK183.out) k_ hk_)⟩)) (below_size (by repeat (first | (with_reducible first | exact HB.out | apply b1_ | apply b2_ | apply b3_ | refine b4_ ?_ GE181.out | refine b4_ ?_ GE182.out | refine b4_ ?_ GE183.out) | exact HB.out))))
 have n3_ := a0_ (blk_below (g := gb181) (o := .cells #[.bool a0_0, .slice A0_1 l0_1.length c0_1] 29 (0, 0)) (by (with_reducible repeat (first | refine k1_ ?_ _ | refine k2_ ?_ | refine k3_ ?_ _)); exact BK181.out) hb)
 have n4_ := a0_ (blk_below (g := gb182) (o := .cells #[.bool a1_0, .slice A1_1 l1_1.length c1_1] 29 (0, 0)) (by (with_reducible repeat (first | refine k1_ ?_ _ | refine k2_ ?_ | refine k3_ ?_ _)); exact BK182.out) hb)
 have n5_ := a0_ (blk_below (g := gb183) (o := .cells #[.bool false, .slice none 0 0] 29 (0, 0)) (by (with_reducible repeat (first | refine k1_ ?_ _ | refine k2_ ?_ | refine k3_ ?_ _)); exact BK183.out) hb)
 have n6_ := a0_ (below_step (by repeat (first | (with_reducible first | exact HB.out | apply b1_ | apply b2_ | apply b3_ | refine b4_ ?_ GE181.out | refine b4_ ?_ GE182.out | refine b4_ ?_ GE183.out) | exact HB.out)) hb)
 clear HO1_1
 clear HO187
 clear BK181
 clear BK182
 clear BK183
 clear HB
 have HO1_1 := n0_
 have HO187 := n1_
 have HO191 := n2_
 have BK181 := n3_
 have BK182 := n4_
 have BK183 := n5_
 have HB := n6_
 clear n0_ n1_ n2_ n3_ n4_ n5_ n6_
 (try clear hb)
 (try clear hb2)
 (try clear hk)
 (try clear hi)
 (try clear ho0)
 obtain ⟨Ao13, co13, eo13⟩ := Kd.V_slice HO191.out
 (first | subst eo13 | (injection eo13 with f1_ f2_ f3_; have f4_ := f1_.symm; have f5_ := f3_.symm; clear f1_ f2_ f3_; subst f4_; subst f5_))
 refine hK.out _ _ ⟨(blk_cell BK181.out 0).trans rfl, (blk_cell BK181.out 1).trans rfl, (blk_cell BK182.out 0).trans rfl, (blk_cell BK182.out 1).trans rfl⟩ (fun hHeld => ?_)
 clear hK K
 refine norm_ (a' := ?_) ?_ ?_
 rotate_left
 ·
  show Act.put _ (some 8) _ = _
  simp only [Act.put, s1_, s2_, s3_, i64_w, i32_w]
  rfl
 refine one_ (i := 4) (N := none) #[true, true, true, true, true] rfl rfl (by kernel_rfl) (by decide) (fun K hK => ?_)
 have hs12 : w11.cell? ⟨gb183, 0, none⟩ = some (.bool false) := (blk_cell BK183.out 0).trans rfl
 have hfs12 := blk_frozen BK183.out 0
 have hns12_0 := NB181_183.out
 have hns12_1 := NB182_183.out
 have hms12_0 := NB183_181.out
 have hms12_1 := NB183_182.out
 have hs14 : w11.cell? ⟨gb183, 1, none⟩ = some (.slice none 0 0) := (blk_cell BK183.out 1).trans rfl
 have hfs14 := blk_frozen BK183.out 1
 have hns14_0 := NB181_183.out
 have hns14_1 := NB182_183.out
 have hms14_0 := NB183_181.out
 have hms14_1 := NB183_182.out
 refine skip_ (w1 := ?_) (by rfl) rfl ?_ ?_
 rotate_left
 ·
  go_simp
  rfl
 refine hK.out _ _ ⟨((cell_far (p := ⟨gb183, _, none⟩) NB181_183.out _).trans (((cell_far (p := ⟨gb183, _, none⟩) NB181_183.out _).trans (hHeld.1)))), ((cell_far (p := ⟨gb183, _, none⟩) NB181_183.out _).trans (((cell_far (p := ⟨gb183, _, none⟩) NB181_183.out _).trans (hHeld.2.1)))), ((cell_far (p := ⟨gb183, _, none⟩) NB182_183.out _).trans (((cell_far (p := ⟨gb183, _, none⟩) NB182_183.out _).trans (hHeld.2.2.1)))), ((cell_far (p := ⟨gb183, _, none⟩) NB182_183.out _).trans (((cell_far (p := ⟨gb183, _, none⟩) NB182_183.out _).trans (hHeld.2.2.2))))⟩ (fun hHeld => ?_)
 clear hK K
 refine done_ (by kernel_rfl) ?_
 try go_wp2
 refine bodyPost_ret (results_cell_row rfl _ _ gb183 29 #[.bool t188, .slice Ao13 t189.length co13] (0, 0) _ rfl (by (with_reducible repeat (first | refine k1_ ?_ _ | refine k2_ ?_ | refine k3_ ?_ _)); refine blk_put (cs := #[.bool t188, .slice none 0 0]) ?_ 1 _ rfl; (with_reducible repeat (first | refine k1_ ?_ _ | refine k2_ ?_ | refine k3_ ?_ _)); refine blk_put (cs := #[.bool false, .slice none 0 0]) ?_ 0 _ rfl; (with_reducible repeat (first | refine k1_ ?_ _ | refine k2_ ?_ | refine k3_ ?_ _)); exact BK183.out) Try.underlying29 rfl (by kernel_rfl)) rfl ?_
 exact ⟨_, by first | rfl | (simp [e1_, e2_] <;> rfl) | (simp [*, e1_, e2_] <;> rfl), by (with_reducible repeat (first | apply v1_ | apply v2_ | apply v3_)); exact v4_ (v5_ (p := ⟨gb183, 1, none⟩) (v5_ (p := ⟨gb183, 0, none⟩) (v4_ HO191.out (fun k_ hk => (⟨hk, hk.2.2.2⟩ : _ ∧ k_ ≠ gb183))) (fun _ hk => hk.2) (.bool t188)) (fun _ hk => hk.2) (.slice Ao13 t189.length co13)) (fun _ hk => hk.1.1), by repeat (first | (with_reducible first | exact HB.out | apply b1_ | apply b2_ | apply b3_ | refine b4_ ?_ GE181.out | refine b4_ ?_ GE182.out | refine b4_ ?_ GE183.out) | exact HB.out)⟩

/-! ### spec_Wide_Sign: function 10 -/
def spec_Wide_Sign.f (a0_0 : Bool) (l0_1 : List Int) : Option (Int) := if a0_0 = true then (some (-1)) else (if (l0_1.length : Int) = 0 then (some 0) else (some 1))
set_option maxHeartbeats 8000000 in
set_option maxRecDepth 100000 in
theorem spec_Wide_Sign.calls (a0_0 : Bool) (A0_1 : Option Addr) (c0_1 : Nat) (l0_1 : List Int) (r : Int) (w : World) (hr0_1 : Kd.C (Kd.int .u32) w A0_1 l0_1.length l0_1) (hc0_1 : l0_1.length ≤ c0_1) (h : spec_Wide_Sign.f a0_0 l0_1 = some r) :
  Calls Try.prog 10 #[.agg #[.bool a0_0, .slice A0_1 l0_1.length c0_1]] w fun e w' => e = .returned (.int .i64 r) ∧ Below w.heap.size w w' := by
 have hu29 := Try.underlying29
 have HR0_1 := a0_ hr0_1
 have HC0_1 := a0_ hc0_1
 clear hr0_1 hc0_1
 have HB := a0_ (Below.refl w.heap.size w)
 have H : (if a0_0 = true then (some (-1)) else (if (l0_1.length : Int) = 0 then (some 0) else (some 1))) = some r := h
 clear h
 by_cases c2 : a0_0 = true
 ·
  subst c2
  have H1 : (some (-1)) = some r := by rw [if_pos rfl] at H; exact H
  clear H
  have H := H1
  clear H1
  obtain rfl := o1_ H
  go_enter Try.func10, Try.ntmps10
  go_wp2_with (first | ((with_reducible refine gate_dst (N := 1) rfl ?_); refine box_event ?hg (N := 1) ?hd (cs := #[.bool true, .slice A0_1 l0_1.length c0_1]) (t := 29) ?hr ?_; (case hd => rfl); (case hg => rfl); (case hr => first | (go_simp; done) | (go_simp; rfl)); intro gb236 hg w3 hbox hb; have n0_ := a0_ (below_step (by repeat (first | (with_reducible first | exact HB.out | apply b1_ | apply b2_ | apply b3_) | exact HB.out)) hb); have n1_ := a0_ (hbox); have n2_ := a0_ ((by rw [hg]; exact (below_size (by repeat (first | (with_reducible first | exact HB.out | apply b1_ | apply b2_ | apply b3_) | exact HB.out))) : w.heap.size ≤ gb236)); have n3_ := a0_ ((by rw [hg]; exact (below_size (by repeat (first | (with_reducible first | exact HB.out | apply b1_ | apply b2_ | apply b3_) | exact HB.out))) : w.heap.size ≤ gb236)); clear HB; have HB := n0_; have BK236 := n1_; have GW236 := n2_; have GE236 := n3_; clear n0_ n1_ n2_ n3_; clear hb hbox hg; have hcz4_0 : w3.cell? ⟨gb236, 0, none⟩ = some (.bool true) := (blk_cell BK236.out 0).trans rfl; have hcz4_1 : w3.cell? ⟨gb236, 1, none⟩ = some (.slice A0_1 l0_1.length c0_1) := (blk_cell BK236.out 1).trans rfl; have hfz4_0 := blk_frozen BK236.out 0; have hfz4_1 := blk_frozen BK236.out 1))
  go_ret
  exact ⟨by first | rfl | (simp [e1_, e2_] <;> rfl) | (simp [*, e1_, e2_] <;> rfl), by repeat (first | (with_reducible first | exact HB.out | apply b1_ | apply b2_ | apply b3_ | refine b4_ ?_ GE236.out) | exact HB.out)⟩
 ·
  replace c2 := Bool.eq_false_iff.mpr c2
  subst c2
  have H1 : (if (l0_1.length : Int) = 0 then (some 0) else (some 1)) = some r := by rw [if_neg (show ¬ (false = true) by decide)] at H; exact H
  clear H
  have H := H1
  clear H1
  by_cases c5 : (l0_1.length : Int) = 0
  ·
   rw [if_pos c5] at H
   have c5b0 : ((l0_1.length : Int) == 0) = true := beq_iff_eq.mpr c5
   have c5b1 : ((l0_1.length : Int) != 0) = false := bne_eq_false_iff_eq.mpr c5
   clear c5
   obtain rfl := o1_ H
   go_enter Try.func10, Try.ntmps10
   go_wp2_with (first | ((with_reducible refine gate_dst (N := 1) rfl ?_); refine box_event ?hg (N := 1) ?hd (cs := #[.bool false, .slice A0_1 l0_1.length c0_1]) (t := 29) ?hr ?_; (case hd => rfl); (case hg => rfl); (case hr => first | (go_simp; done) | (go_simp; rfl)); intro gb236 hg w6 hbox hb; have n0_ := a0_ (below_step (by repeat (first | (with_reducible first | exact HB.out | apply b1_ | apply b2_ | apply b3_) | exact HB.out)) hb); have n1_ := a0_ (hbox); have n2_ := a0_ ((by rw [hg]; exact (below_size (by repeat (first | (with_reducible first | exact HB.out | apply b1_ | apply b2_ | apply b3_) | exact HB.out))) : w.heap.size ≤ gb236)); have n3_ := a0_ ((by rw [hg]; exact (below_size (by repeat (first | (with_reducible first | exact HB.out | apply b1_ | apply b2_ | apply b3_) | exact HB.out))) : w.heap.size ≤ gb236)); clear HB; have HB := n0_; have BK236 := n1_; have GW236 := n2_; have GE236 := n3_; clear n0_ n1_ n2_ n3_; clear hb hbox hg; have hcz7_0 : w6.cell? ⟨gb236, 0, none⟩ = some (.bool false) := (blk_cell BK236.out 0).trans rfl; have hcz7_1 : w6.cell? ⟨gb236, 1, none⟩ = some (.slice A0_1 l0_1.length c0_1) := (blk_cell BK236.out 1).trans rfl; have hfz7_0 := blk_frozen BK236.out 0; have hfz7_1 := blk_frozen BK236.out 1))
   go_ret
   exact ⟨by first | rfl | (simp [e1_, e2_] <;> rfl) | (simp [*, e1_, e2_] <;> rfl), by repeat (first | (with_reducible first | exact HB.out | apply b1_ | apply b2_ | apply b3_ | refine b4_ ?_ GE236.out) | exact HB.out)⟩
  ·
   rw [if_neg c5] at H
   have c5b0 : ((l0_1.length : Int) == 0) = false := beq_eq_false_iff_ne.mpr c5
   have c5b1 : ((l0_1.length : Int) != 0) = true := bne_iff_ne.mpr c5
   have c5b2 : ¬ (l0_1 = []) := fun h_ => c5 (by rw [h_]; rfl)
   obtain rfl := o1_ H
   go_enter Try.func10, Try.ntmps10
   go_wp2_with (first | ((with_reducible refine gate_dst (N := 1) rfl ?_); refine box_event ?hg (N := 1) ?hd (cs := #[.bool false, .slice A0_1 l0_1.length c0_1]) (t := 29) ?hr ?_; (case hd => rfl); (case hg => rfl); (case hr => first | (go_simp; done) | (go_simp; rfl)); intro gb236 hg w8 hbox hb; have n0_ := a0_ (below_step (by repeat (first | (with_reducible first | exact HB.out | apply b1_ | apply b2_ | apply b3_) | exact HB.out)) hb); have n1_ := a0_ (hbox); have n2_ := a0_ ((by rw [hg]; exact (below_size (by repeat (first | (with_reducible first | exact HB.out | apply b1_ | apply b2_ | apply b3_) | exact HB.out))) : w.heap.size ≤ gb236)); have n3_ := a0_ ((by rw [hg]; exact (below_size (by repeat (first | (with_reducible first | exact HB.out | apply b1_ | apply b2_ | apply b3_) | exact HB.out))) : w.heap.size ≤ gb236)); clear HB; have HB := n0_; have BK236 := n1_; have GW236 := n2_; have GE236 := n3_; clear n0_ n1_ n2_ n3_; clear hb hbox hg; have hcz9_0 : w8.cell? ⟨gb236, 0, none⟩ = some (.bool false) := (blk_cell BK236.out 0).trans rfl; have hcz9_1 : w8.cell? ⟨gb236, 1, none⟩ = some (.slice A0_1 l0_1.length c0_1) := (blk_cell BK236.out 1).trans rfl; have hfz9_0 := blk_frozen BK236.out 0; have hfz9_1 := blk_frozen BK236.out 1))
   go_ret
   exact ⟨by first | rfl | (simp [e1_, e2_] <;> rfl) | (simp [*, e1_, e2_] <;> rfl), by repeat (first | (with_reducible first | exact HB.out | apply b1_ | apply b2_ | apply b3_ | refine b4_ ?_ GE236.out) | exact HB.out)⟩


end Go.Proofs.Ytiiicmfobljnaaa.V
