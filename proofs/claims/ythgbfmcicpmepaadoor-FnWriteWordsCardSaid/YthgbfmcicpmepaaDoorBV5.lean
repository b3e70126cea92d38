import Derived.Test.YthgbfmcicpmepaaDoorBV3
namespace Go.Proofs.YthgbfmcicpmepaaDoor.V
open Go.RowKit Go.Proofs.YthgbfmcicpmepaaDoorW.PrintWords Go.Proofs.YthgbfmcicpmepaaDoorW.PrintLast Go.Proofs.YthgbfmcicpmepaaDoorW.PrintMore
attribute [local go_sem] max2_int min2_int max_two min_two max_three min_three max_four min_four
set_option linter.unusedVariables false
set_option linter.unusedSimpArgs false
theorem info3 : (Tryd.prog.info? 3).map (fun i => (i.zero, i.size, i.bytes)) = some (some (.int .i64 0), 1, 8) := by kernel_rfl
theorem info27 : (Tryd.prog.info? 27).map (fun i => (i.zero, i.size, i.bytes)) = some (some (.int .u64 0), 1, 8) := by kernel_rfl

/-! ### spec_Packed: function 7 -/
def spec_Packed.l0 : Nat → Int → List Int → List Bool → Int → Int → Option (List Int)
 | 0, _, _, _, _, _ => none
 | k + 1, x1, x5, x16, x17, x18 => if x18 < x17 then (if 0 ≤ x18 then (if x18 < (x16.length : Int) then (if rdOf false x16 x18 = true then (if 0 ≤ (wrap64 (Int.tdiv (wrap64 (x1 + x18)) 8)) then (if (wrap64 (Int.tdiv (wrap64 (x1 + x18)) 8)) < (x5.length : Int) then (if 0 ≤ (Int.tmod (wrap64 (x1 + x18)) 8) then (spec_Packed.l0 k x1 (x5.set ((wrap64 (Int.tdiv (wrap64 (x1 + x18)) 8)) : Int).toNat (Go.bits .or .u8 (rd x5 (wrap64 (Int.tdiv (wrap64 (x1 + x18)) 8))) (shl .u8 1 (Int.tmod (wrap64 (x1 + x18)) 8)))) x16 x17 (wrap64 (x18 + 1))) else (none)) else (none)) else (none)) else (spec_Packed.l0 k x1 x5 x16 x17 (wrap64 (x18 + 1)))) else (none)) else (none)) else (some x5)
def spec_Packed.f (k : Nat) (l0 : List Bool) (a1 : Int) : Option (List Int) := if 0 ≤ (wrap64 (Int.tdiv (wrap64 ((wrap64 (a1 + (l0.length : Int))) + 7)) 8)) then (if (wrap64 (Int.tdiv (wrap64 ((wrap64 (a1 + (l0.length : Int))) + 7)) 8) : Int).toNat ≤ 281474976710656 then (spec_Packed.l0 k a1 (List.replicate (wrap64 (Int.tdiv (wrap64 ((wrap64 (a1 + (l0.length : Int))) + 7)) 8) : Int).toNat 0) l0 (l0.length : Int) 0) else (none)) else (none)
def spec_Packed.T7 : Bool × List (List Nat × List Nat) := (true, [([], []), ([], []), ([1], [1]), ([0, 2], [0, 2]), ([3], [3]), ([], []), ([5], [5]), ([6], [6]), ([4, 7], [4, 7]), ([0, 2, 0, 1, 2, 3, 4, 5, 6, 7, 8], [0, 2]), ([9, 8, 0, 1, 2, 3, 4, 5, 6, 7, 8], [8, 9])])
def spec_Packed.B7 : List Nat := [0, 0, 2, 7, 15, 0, 32, 96, 255, 511, 1023]
theorem spec_Packed.tab7 : rtab .any (opsOf Tryd.f7 7) = spec_Packed.T7 := by kernel_rfl
theorem spec_Packed.bits7 : waitsOk spec_Packed.T7.2 spec_Packed.B7 = true := by kernel_rfl
set_option maxHeartbeats 8000000 in
set_option maxRecDepth 100000 in
theorem spec_Packed.calls (k : Nat) (A0 : Option Addr) (c0 : Nat) (l0 : List Bool) (a1 : Int) (r : List Int) (w : World) (hr0 : Kd.C Kd.bool w A0 l0.length l0) (hc0 : l0.length ≤ c0) (h : spec_Packed.f k l0 a1 = some r) :
  Calls Tryd.prog 7 #[.slice A0 l0.length c0, .int .i64 a1] w fun e w' => ∃ v0_ : Value, e = .returned (v0_) ∧ Kd.R (Kd.int .u8) 5 w' w.heap.size (fun _ => True) v0_ r ∧ Below w.heap.size w w' := by
 have HR0 := a0_ hr0
 have HC0 := a0_ hc0
 clear hr0 hc0
 have HB := a0_ (Below.refl w.heap.size w)
 have H : (if 0 ≤ (wrap64 (Int.tdiv (wrap64 ((wrap64 (a1 + (l0.length : Int))) + 7)) 8)) then (if (wrap64 (Int.tdiv (wrap64 ((wrap64 (a1 + (l0.length : Int))) + 7)) 8) : Int).toNat ≤ 281474976710656 then (spec_Packed.l0 k a1 (List.replicate (wrap64 (Int.tdiv (wrap64 ((wrap64 (a1 + (l0.length : Int))) + 7)) 8) : Int).toNat 0) l0 (l0.length : Int) 0) else (none)) else (none)) = some r := h
 clear h
 obtain ⟨ji3, hji3⟩ : ∃ j_ : Int, (wrap64 (Int.tdiv (wrap64 ((wrap64 (a1 + (l0.length : Int))) + 7)) 8)) = j_ := ⟨_, rfl⟩
 replace H : (if 0 ≤ (ji3) then (if (ji3 : Int).toNat ≤ 281474976710656 then (spec_Packed.l0 k a1 (List.replicate (ji3 : Int).toNat 0) l0 (l0.length : Int) 0) else (none)) else (none)) = some r := by first | (rw [hji3] at H; exact H) | (simp only [hji3] at H ⊢; exact H)
 have hji3w : (IntKind.i64.wrap (Int.tdiv (wrap64 ((wrap64 (a1 + (l0.length : Int))) + 7)) 8)) = ji3 := (i64_w _).trans hji3
 by_cases c4 : 0 ≤ (ji3)
 ·
  rw [if_pos c4] at H
  have c4b0 := eq_true c4
  have c4b1 : decide (0 ≤ (ji3)) = true := d2_ c4
  clear c4
  by_cases c5 : (ji3 : Int).toNat ≤ 281474976710656
  ·
   rw [if_pos c5] at H
   have c5b0 := eq_true c5
   have c5b1 : decide ((ji3 : Int).toNat ≤ 281474976710656) = true := d2_ c5
   clear c5
   obtain ⟨y101, hy101⟩ : ∃ y_ : List Int, y_ = (List.replicate (ji3 : Int).toNat 0) := ⟨_, rfl⟩
   replace H : (spec_Packed.l0 k a1 y101 l0 (l0.length : Int) 0) = some r := by first | (rw [hy101]; with_reducible exact H) | (have H2_ := (o2_ _ _).symm.trans H; rw [hy101]; with_reducible exact H2_) | (have H2_ := (o2_ _ _).symm.trans H; with_reducible exact H2_) | with_reducible exact H | (rw [hy101]; exact H) | exact H
   have Ny101 := a0_ hy101
   clear hy101
   have H' := a0_ H
   clear H
   go_enter Tryd.func7, Tryd.ntmps7
   go_wp2_with (first | ((with_reducible refine gate_dst (N := 15) rfl ?_); refine Kd.R_make (Kd.int .u8) _ 5 rfl (N := 15) rfl 22 _ _ rfl ji3 rfl rfl Tryd.underlying22 (.int .u8 0) 1 info5 rfl (by decide) (by omega) 0 (ok := fun _ => True) (okp := fun _ => True) rfl (fun _ hk => hk) trivial (d1_ (by first | (with_reducible assumption) | assumption)) (Nat.le_trans (Nat.mul_le_mul_right _ (d1_ (by first | (with_reducible assumption) | assumption) : ji3.toNat ≤ 281474976710656)) (by omega)) (Below.refl _ _) (Nat.le_refl _) ?_; intro v102 w6 ho7 hb hg_ hnew_; clear hg_ hnew_; (first | rw [← Ny101.out] at ho7 | (simp only [Int.reduceToNat] at ho7; rw [← Ny101.out] at ho7)); have n0_ := a0_ (Kd.R_lower ho7 (below_size (by repeat (first | (with_reducible first | exact HB.out | apply b1_ | apply b2_ | apply b3_) | exact HB.out)))); have n1_ := a0_ (below_step (by repeat (first | (with_reducible first | exact HB.out | apply b1_ | apply b2_ | apply b3_) | exact HB.out)) hb); clear HB; have HO103 := n0_; have HB := n1_; clear n0_ n1_; clear hb ho7))
   go_loopg [18] k (fun kq v18 w' => ∃ (x5_1 : List Int) (x18_1 : Int), v18 = .int .i64 x18_1 ∧ Aside0 (spec_Packed.l0 kq a1 x5_1 l0 (l0.length : Int) x18_1 = some r) ∧ Aside0 (kq ≤ k) ∧ Aside0 (Kd.R (Kd.int .u8) 5 w' w.heap.size (fun _ => True) v102 x5_1) ∧ Aside0 (Below w.heap.size w w'))
   case atStart => exact ⟨(y101), (0), (by first | rfl | (simp; done) | (simp [*]; done)), H', ⟨Nat.le_refl _⟩, ⟨by (with_reducible repeat (first | apply r1_ | apply r2_ | apply r3_)); exact HO103.out⟩, ⟨by repeat (first | (with_reducible first | exact HB.out | apply b1_ | apply b2_ | apply b3_) | exact HB.out)⟩⟩
   case round =>
    clear H'
    try clear p2
    try clear c4
    try clear c4b0
    try clear c4b1
    try clear c5
    try clear c5b0
    try clear c5b1
    try clear p6
    try clear c7
    obtain ⟨x5_1, x18_1, rfl, HA, HK1, HO_5, HB⟩ := hrel
    cases gk with
    | zero => exact absurd HA.out (by simp [spec_Packed.l0])
    | succ k1 =>
     have H := HA.out
     clear HA
     simp only [spec_Packed.l0] at H
     by_cases c8 : x18_1 < (l0.length : Int)
     ·
      rw [if_pos c8] at H
      have c8b0 : decide (x18_1 < (l0.length : Int)) = true := d2_ c8
      clear c8
      by_cases c9 : 0 ≤ x18_1
      ·
       rw [if_pos c9] at H
       have c9b0 : decide (0 ≤ x18_1) = true := d2_ c9
       clear c9
       by_cases c10 : x18_1 < (l0.length : Int)
       ·
        rw [if_pos c10] at H
        have c10b0 : decide (x18_1 < (l0.length : Int)) = true := d2_ c10
        clear c10
        obtain ⟨bq11, hbq11⟩ : ∃ b_ : Bool, b_ = (rdOf false l0 x18_1) := ⟨_, rfl⟩
        replace H : (if bq11 = true then (if 0 ≤ (wrap64 (Int.tdiv (wrap64 (a1 + x18_1)) 8)) then (if (wrap64 (Int.tdiv (wrap64 (a1 + x18_1)) 8)) < (x5_1.length : Int) then (if 0 ≤ (Int.tmod (wrap64 (a1 + x18_1)) 8) then (spec_Packed.l0 k1 a1 (x5_1.set ((wrap64 (Int.tdiv (wrap64 (a1 + x18_1)) 8)) : Int).toNat (Go.bits .or .u8 (rd x5_1 (wrap64 (Int.tdiv (wrap64 (a1 + x18_1)) 8))) (shl .u8 1 (Int.tmod (wrap64 (a1 + x18_1)) 8)))) l0 (l0.length : Int) (wrap64 (x18_1 + 1))) else (none)) else (none)) else (none)) else (spec_Packed.l0 k1 a1 x5_1 l0 (l0.length : Int) (wrap64 (x18_1 + 1)))) = some r := by rw [← hbq11] at H; exact H
        have Nbq11 := a0_ hbq11
        clear hbq11
        by_cases c12 : bq11 = true
        ·
         subst c12
         have H1 : (if 0 ≤ (wrap64 (Int.tdiv (wrap64 (a1 + x18_1)) 8)) then (if (wrap64 (Int.tdiv (wrap64 (a1 + x18_1)) 8)) < (x5_1.length : Int) then (if 0 ≤ (Int.tmod (wrap64 (a1 + x18_1)) 8) then (spec_Packed.l0 k1 a1 (x5_1.set ((wrap64 (Int.tdiv (wrap64 (a1 + x18_1)) 8)) : Int).toNat (Go.bits .or .u8 (rd x5_1 (wrap64 (Int.tdiv (wrap64 (a1 + x18_1)) 8))) (shl .u8 1 (Int.tmod (wrap64 (a1 + x18_1)) 8)))) l0 (l0.length : Int) (wrap64 (x18_1 + 1))) else (none)) else (none)) else (none)) = some r := by rw [if_pos rfl] at H; exact H
         clear H
         have H := H1
         clear H1
         obtain ⟨ji13, hji13⟩ : ∃ j_ : Int, (wrap64 (Int.tdiv (wrap64 (a1 + x18_1)) 8)) = j_ := ⟨_, rfl⟩
         replace H : (if 0 ≤ (ji13) then (if (ji13) < (x5_1.length : Int) then (if 0 ≤ (Int.tmod (wrap64 (a1 + x18_1)) 8) then (spec_Packed.l0 k1 a1 (x5_1.set ((ji13) : Int).toNat (Go.bits .or .u8 (rd x5_1 (ji13)) (shl .u8 1 (Int.tmod (wrap64 (a1 + x18_1)) 8)))) l0 (l0.length : Int) (wrap64 (x18_1 + 1))) else (none)) else (none)) else (none)) = some r := by first | (rw [hji13] at H; exact H) | (simp only [hji13] at H ⊢; exact H)
         have hji13w : (IntKind.i64.wrap (Int.tdiv (wrap64 (a1 + x18_1)) 8)) = ji13 := (i64_w _).trans hji13
         by_cases c14 : 0 ≤ (ji13)
         ·
          rw [if_pos c14] at H
          have c14b0 : decide (0 ≤ (ji13)) = true := d2_ c14
          clear c14
          by_cases c15 : (ji13) < (x5_1.length : Int)
          ·
           rw [if_pos c15] at H
           have c15b0 : decide ((ji13) < (x5_1.length : Int)) = true := d2_ c15
           clear c15
           obtain ⟨ji16, hji16⟩ : ∃ j_ : Int, (Int.tmod (wrap64 (a1 + x18_1)) 8) = j_ := ⟨_, rfl⟩
           replace H : (if 0 ≤ (ji16) then (spec_Packed.l0 k1 a1 (x5_1.set ((ji13) : Int).toNat (Go.bits .or .u8 (rd x5_1 (ji13)) (shl .u8 1 (ji16)))) l0 (l0.length : Int) (wrap64 (x18_1 + 1))) else (none)) = some r := by first | (rw [hji16] at H; exact H) | (simp only [hji16] at H ⊢; exact H)
           by_cases c17 : 0 ≤ (ji16)
           ·
            rw [if_pos c17] at H
            have c17b0 := eq_true c17
            have c17b1 : decide (0 ≤ (ji16)) = true := d2_ c17
            clear c17
            obtain ⟨ji18, hji18⟩ : ∃ j_ : Int, (shl .u8 1 (ji16)) = j_ := ⟨_, rfl⟩
            replace H : (spec_Packed.l0 k1 a1 (x5_1.set ((ji13) : Int).toNat (Go.bits .or .u8 (rd x5_1 (ji13)) (ji18))) l0 (l0.length : Int) (wrap64 (x18_1 + 1))) = some r := by first | (rw [hji18] at H; exact H) | (simp only [hji18] at H ⊢; exact H)
            have hji18_ : (IntKind.u8.wrap (1 * 2 ^ min (ji16).toNat 8)) = ji18 := hji18
            have hji18z : (ji16) ≤ 8 → (IntKind.u8.wrap (1 * 2 ^ (ji16).toNat)) = ji18 := shl_small hji18
            have hji18u : (IntKind.u8.wrap (2 ^ min (ji16).toNat 8)) = ji18 := by have h_ := hji18_; rw [Int.one_mul] at h_; exact h_
            have hji18v : (ji16) ≤ 8 → (IntKind.u8.wrap (2 ^ (ji16).toNat)) = ji18 := fun hle_ => by have h_ := hji18z hle_; rw [Int.one_mul] at h_; exact h_
            obtain ⟨y106, hy106⟩ : ∃ y_ : List Int, y_ = (x5_1.set ((ji13) : Int).toNat (Go.bits .or .u8 (rd x5_1 (ji13)) (ji18))) := ⟨_, rfl⟩
            replace H : (spec_Packed.l0 k1 a1 y106 l0 (l0.length : Int) (wrap64 (x18_1 + 1))) = some r := by first | (rw [hy106]; with_reducible exact H) | (have H2_ := (o2_ _ _).symm.trans H; rw [hy106]; with_reducible exact H2_) | (have H2_ := (o2_ _ _).symm.trans H; with_reducible exact H2_) | with_reducible exact H | (rw [hy106]; exact H) | exact H
            have Ny106 := a0_ hy106
            clear hy106
            have H' := a0_ H
            clear H
            have p104 : 0 ≤ (x18_1 : Int) := d1_ (by first | (with_reducible assumption) | assumption)
            have q104 : x18_1 < (l0.length : Int) := d1_ (by first | (with_reducible assumption) | assumption)
            obtain ⟨ad104, e104, hx104_0⟩ := Kd.at_bool HR0.out x18_1 p104 q104
            (try rw [← Nbq11.out] at hx104_0)
            cases e104
            replace hx104_0 := (HB.out.cell (World.block_lt_of_cell? w _ hx104_0)).trans hx104_0
            replace p104 := eq_true p104
            replace q104 := eq_true q104
            try go_wp2
            have n0_ := a0_ (r3_ HO_5.out)
            have n1_ := a0_ (b3_ HB.out)
            clear HO_5
            clear HB
            have HO_5 := n0_
            have HB := n1_
            clear n0_ n1_
            obtain ⟨Ao21, co21, eo21⟩ := Kd.R_slice HO_5.out
            (first | subst eo21 | (injection eo21 with f1_ f2_ f3_; have f4_ := f1_.symm; have f5_ := f3_.symm; clear f1_ f2_ f3_; subst f4_; subst f5_))
            have p105 : 0 ≤ ((ji13) : Int) := d1_ (by first | (with_reducible assumption) | assumption)
            have q105 : (ji13) < (x5_1.length : Int) := d1_ (by first | (with_reducible assumption) | assumption)
            obtain ⟨ad105, e105, hx105_0⟩ := Kd.at_int (Kd.R_reads' HO_5.out).2.2 (ji13) p105 q105
            cases e105
            replace p105 := eq_true p105
            replace q105 := eq_true q105
            have p19 : 0 ≤ ((ji13) : Int) := d1_ (by first | (with_reducible assumption) | assumption)
            have q19 : ((ji13) : Int) < ((x5_1.length : Int) : Int) := d1_ (by first | (with_reducible assumption) | assumption)
            obtain ⟨go19, co19, eo19, gb19, gl19, cl19, HG19⟩ := Kd.R_form HO_5.out (by omega)
            (first | cases eo19 | (injection eo19 with ea_ en_ ec_; (first | subst ea_ | (injection ea_ with ea_; subst ea_)); subst ec_; clear en_))
            have GB19 := a0_ gb19
            have GG19 := a0_ HG19
            clear gb19 gl19 HG19
            (first | simp only [add_plain] at hx105_0 | skip)
            obtain ⟨hx19_0, hf19_0⟩ := Kd.R_celln 0 HO_5.out ((ji13) : Int) p19 q19
            replace p19 := eq_true p19
            replace q19 := eq_true q19
            have HP22 := Kd.R_putn HO_5.out ((ji13) : Int) (Go.bits .or .u8 (rd x5_1 (ji13)) (ji18))
            rw [← Ny106.out] at HP22
            have HQ22 := a0_ HP22
            clear HP22
            refine start_ (n := 11) (S := fun w' => w'.cell? ⟨go19, ((ji13)).toNat, none⟩ = some (.int .u8 (rd x5_1 (ji13)))) (ds := [10]) #[false, false, false, false, false, false, false, false, false, false, false] (by kernel_rfl) rfl rfl (hx105_0) (fun hHeld => ?_); refine with_tabW spec_Packed.tab7 spec_Packed.bits7 (fun HT_ HW_ => ?_)
            generalize wr.drew = w20 at HO_5 HB GG19 HQ22 hf19_0 hx105_0 hx19_0 hHeld ⊢
            refine pure_ (i := 0) (N := some 27) (v := ?_) (a' := ?_) #[true, false, false, false, false, false, false, false, false, false, false] rfl rfl (any_of HT_.out (by kernel_rfl)) (fun _ _ _ h => h) (Or.inl ⟨by rfl, ?_⟩) ?_ ?_
            rotate_left
            ·
             intro w'
             go_simp
             with_reducible rfl
            rotate_left
            ·
             simp only [Act.put, s1_, s2_, s3_, i64_w, i32_w]
             rfl
            refine pure_ (i := 1) (N := some 28) (v := ?_) (a' := ?_) #[true, true, false, false, false, false, false, false, false, false, false] rfl rfl (any_of HT_.out (by kernel_rfl)) (fun _ _ _ h => h) (Or.inl ⟨by rfl, ?_⟩) ?_ ?_
            rotate_left
            ·
             intro w'
             go_simp
             with_reducible rfl
            rotate_left
            ·
             simp only [Act.put, s1_, s2_, s3_, i64_w, i32_w]
             rfl
            refine pure_ (i := 2) (N := some 29) (v := ?_) (a' := ?_) #[true, true, true, false, false, false, false, false, false, false, false] rfl rfl (any_of HT_.out (by kernel_rfl)) (fun _ _ _ h => h) (Or.inl ⟨by rfl, ?_⟩) ?_ ?_
            rotate_left
            ·
             intro w'
             go_simp
             with_reducible rfl
            rotate_left
            ·
             simp only [Act.put, s1_, s2_, s3_, i64_w, i32_w]
             rfl
            refine pure_ (i := 3) (N := some 30) (v := ?_) (a' := ?_) #[true, true, true, true, false, false, false, false, false, false, false] rfl rfl (any_of HT_.out (by kernel_rfl)) (fun _ _ _ h => h) (Or.inl ⟨by rfl, ?_⟩) ?_ ?_
            rotate_left
            ·
             intro w'
             go_simp
             with_reducible rfl
            rotate_left
            ·
             simp only [Act.put, s1_, s2_, s3_, i64_w, i32_w]
             rfl
            refine pure_ (i := 5) (N := some 32) (v := ?_) (a' := ?_) #[true, true, true, true, false, true, false, false, false, false, false] rfl rfl (any_of HT_.out (by kernel_rfl)) (fun _ _ _ h => h) (Or.inl ⟨by rfl, ?_⟩) ?_ ?_
            rotate_left
            ·
             intro w'
             go_simp
             with_reducible rfl
            rotate_left
            ·
             simp only [Act.put, s1_, s2_, s3_, i64_w, i32_w]
             rfl
            refine pure_ (i := 6) (N := some 33) (v := ?_) (a' := ?_) #[true, true, true, true, false, true, true, false, false, false, false] rfl rfl (any_of HT_.out (by kernel_rfl)) (fun _ _ _ h => h) (Or.inl ⟨by rfl, ?_⟩) ?_ ?_
            rotate_left
            ·
             intro w'
             go_simp
             with_reducible rfl
            rotate_left
            ·
             simp only [Act.put, s1_, s2_, s3_, i64_w, i32_w]
             rfl
            refine pure_ (i := 7) (N := some 34) (v := ?_) (a' := ?_) #[true, true, true, true, false, true, true, true, false, false, false] rfl rfl (any_of HT_.out (by kernel_rfl)) (fun _ _ _ h => h) (Or.inl ⟨by rfl, ?_⟩) ?_ ?_
            rotate_left
            ·
             intro w'
             go_simp
             with_reducible rfl
            rotate_left
            ·
             simp only [Act.put, s1_, s2_, s3_, i64_w, i32_w]
             rfl
            refine take_ (i := 4) (N := some 31) (v := ?_) (a' := ?_) #[true, true, true, true, true, true, true, true, false, false, false] rfl rfl (take_ofW HT_.out HW_.out (by kernel_rfl)) (fun _ _ _ h => h) (Or.inl ⟨by rfl, ?_⟩) hHeld ?_ ?_
            rotate_left
            ·
             intro w' s0
             go_simp
             with_reducible rfl
            rotate_left
            ·
             simp only [Act.put, s1_, s2_, s3_, i64_w, i32_w]
             rfl
            refine pure_ (i := 8) (N := some 35) (v := ?_) (a' := ?_) #[true, true, true, true, true, true, true, true, true, false, false] rfl rfl (any_of HT_.out (by kernel_rfl)) (fun _ _ _ h => h) (Or.inl ⟨by rfl, ?_⟩) ?_ ?_
            rotate_left
            ·
             intro w'
             go_simp
             with_reducible rfl
            rotate_left
            ·
             simp only [Act.put, s1_, s2_, s3_, i64_w, i32_w]
             rfl
            refine pure_ (i := 9) (N := some 36) (v := ?_) (a' := ?_) #[true, true, true, true, true, true, true, true, true, true, false] rfl rfl (any_of HT_.out (by kernel_rfl)) (fun _ _ _ h => h) (Or.inl ⟨by rfl, ?_⟩) ?_ ?_
            rotate_left
            ·
             intro w'
             go_simp
             with_reducible rfl
            rotate_left
            ·
             simp only [Act.put, s1_, s2_, s3_, i64_w, i32_w]
             rfl
            refine last_ (i := 10) (N := none) #[true, true, true, true, true, true, true, true, true, true, true] rfl rfl (one_of HT_.out (by kernel_rfl)) (by decide) (fun K hK => ?_)
            refine skip_ (w1 := ?_) (by rfl) rfl ?_ ?_
            rotate_left
            ·
             go_simp
             rfl
            refine hK.out _ _ ?_
            clear hK K
            refine done_ (done_of HT_.out (by kernel_rfl)) ?_
            try go_wp2
            go_roundg k1
            case measure => have := HK1.out; omega
            case rel => exact ⟨(y106), (wrap64 (x18_1 + 1)), (by first | rfl | (simp; done) | (simp [*]; done)), H', ⟨by have := HK1.out; omega⟩, ⟨by (with_reducible repeat (first | apply r1_ | apply r2_ | apply r3_)); exact HQ22.out⟩, ⟨by repeat (first | (with_reducible first | exact HB.out | apply b1_ | apply b2_ | apply b3_ | refine b4_ ?_ GB19.out) | exact HB.out)⟩⟩
           ·
            rw [if_neg c17] at H
            exact absurd H (by simp)
          ·
           rw [if_neg c15] at H
           exact absurd H (by simp)
         ·
          rw [if_neg c14] at H
          exact absurd H (by simp)
        ·
         replace c12 := Bool.eq_false_iff.mpr c12
         subst c12
         have H1 : (spec_Packed.l0 k1 a1 x5_1 l0 (l0.length : Int) (wrap64 (x18_1 + 1))) = some r := by rw [if_neg (show ¬ (false = true) by decide)] at H; exact H
         clear H
         have H := H1
         clear H1
         have H' := a0_ H
         clear H
         have p104 : 0 ≤ (x18_1 : Int) := d1_ (by first | (with_reducible assumption) | assumption)
         have q104 : x18_1 < (l0.length : Int) := d1_ (by first | (with_reducible assumption) | assumption)
         obtain ⟨ad104, e104, hx104_0⟩ := Kd.at_bool HR0.out x18_1 p104 q104
         (try rw [← Nbq11.out] at hx104_0)
         cases e104
         replace hx104_0 := (HB.out.cell (World.block_lt_of_cell? w _ hx104_0)).trans hx104_0
         replace p104 := eq_true p104
         replace q104 := eq_true q104
         go_wp2
         go_roundg k1
         case measure => have := HK1.out; omega
         case rel => exact ⟨(x5_1), (wrap64 (x18_1 + 1)), (by first | rfl | (simp; done) | (simp [*]; done)), H', ⟨by have := HK1.out; omega⟩, ⟨by (with_reducible repeat (first | apply r1_ | apply r2_ | apply r3_)); exact HO_5.out⟩, ⟨by repeat (first | (with_reducible first | exact HB.out | apply b1_ | apply b2_ | apply b3_) | exact HB.out)⟩⟩
       ·
        rw [if_neg c10] at H
        exact absurd H (by simp)
      ·
       rw [if_neg c9] at H
       exact absurd H (by simp)
     ·
      rw [if_neg c8] at H
      have c8b0 : decide (x18_1 < (l0.length : Int)) = false := d3_ c8
      clear c8
      obtain rfl := o1_ H
      go_wp2
      go_ret
      exact ⟨_, by first | rfl | (simp [e1_, e2_] <;> rfl) | (simp only [← hji3]; first | rfl | (simp [e1_, e2_] <;> rfl)) | (simp [*, e1_, e2_] <;> rfl), by (with_reducible repeat (first | apply r1_ | apply r2_ | apply r3_)); exact HO_5.out, by repeat (first | (with_reducible first | exact HB.out | apply b1_ | apply b2_ | apply b3_) | exact HB.out)⟩
  ·
   rw [if_neg c5] at H
   exact absurd H (by simp)
 ·
  rw [if_neg c4] at H
  exact absurd H (by simp)


end Go.Proofs.YthgbfmcicpmepaaDoor.V
