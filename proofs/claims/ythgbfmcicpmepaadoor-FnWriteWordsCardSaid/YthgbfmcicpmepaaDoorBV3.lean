import Derived.Test.YthgbfmcicpmepaaDoorBV1
namespace Go.Proofs.YthgbfmcicpmepaaDoor.V
open Go.RowKit Go.Proofs.YthgbfmcicpmepaaDoorW.PrintWords Go.Proofs.YthgbfmcicpmepaaDoorW.PrintLast Go.Proofs.YthgbfmcicpmepaaDoorW.PrintMore
attribute [local go_sem] max2_int min2_int max_two min_two max_three min_three max_four min_four
set_option linter.unusedVariables false
set_option linter.unusedSimpArgs false

/-! ### laws_same: function 8 -/
def laws_same.f (l0 : List Int) (l1 : List Int) : Option (Bool) := some ((strOfNums l0).toList == (strOfNums l1).toList)
set_option maxHeartbeats 8000000 in
set_option maxRecDepth 100000 in
theorem laws_same.calls (A0 : Option Addr) (c0 : Nat) (l0 : List Int) (A1 : Option Addr) (c1 : Nat) (l1 : List Int) (r : Bool) (w : World) (hr0 : Kd.C (Kd.int .u8) w A0 l0.length l0) (hc0 : l0.length ≤ c0) (hr1 : Kd.C (Kd.int .u8) w A1 l1.length l1) (hc1 : l1.length ≤ c1) (h : laws_same.f l0 l1 = some r) :
  Calls Tryd.prog 8 #[.slice A0 l0.length c0, .slice A1 l1.length c1] w fun e w' => e = .returned (.bool r) ∧ Drawn0 w w' := by
 have HR0 := a0_ hr0
 have HC0 := a0_ hc0
 clear hr0 hc0
 have HR1 := a0_ hr1
 have HC1 := a0_ hc1
 clear hr1 hc1
 have H : (some ((strOfNums l0).toList == (strOfNums l1).toList)) = some r := h
 clear h
 obtain rfl := o1_ H
 have hcv3 := Kd.C_string (P := Tryd.prog) (A := A0) (c := c0) Tryd.underlying22 Tryd.underlying5 Tryd.underlying9 HR0.out
 have hcv4 := Kd.C_string (P := Tryd.prog) (A := A1) (c := c1) Tryd.underlying22 Tryd.underlying5 Tryd.underlying9 HR1.out
 go_enter Tryd.func8, Tryd.ntmps8
 go_wp2
 go_ret
 exact ⟨by first | rfl | (simp; done) | (simp [*]; done), by repeat (first | exact Drawn0.refl _ | apply Drawn0.step)⟩

/-! ### laws_changed: function 10 -/
def laws_changed.l0 : Nat → Int → List Int → List Bool → Int → Int → Option (List Int)
 | 0, _, _, _, _, _ => none
 | k + 1, x1, x7, x14, x15, x16 => if x16 < x15 then (if 0 ≤ x16 then (if x16 < (x14.length : Int) then (if 0 ≤ (wrap64 (Int.tdiv (wrap64 (x1 + x16)) 8)) then (if (wrap64 (Int.tdiv (wrap64 (x1 + x16)) 8)) < (x7.length : Int) then (if 0 ≤ (Int.tmod (wrap64 (x1 + x16)) 8) then ((some (x7.set ((wrap64 (Int.tdiv (wrap64 (x1 + x16)) 8)) : Int).toNat (Go.bits .andNot .u8 (rd x7 (wrap64 (Int.tdiv (wrap64 (x1 + x16)) 8))) (shl .u8 1 (Int.tmod (wrap64 (x1 + x16)) 8))) : List Int)).bind fun y109 => (if rdOf false x14 x16 = true then (laws_changed.l0 k x1 (y109.set ((wrap64 (Int.tdiv (wrap64 (x1 + x16)) 8)) : Int).toNat (Go.bits .or .u8 (rd y109 (wrap64 (Int.tdiv (wrap64 (x1 + x16)) 8))) (shl .u8 1 (Int.tmod (wrap64 (x1 + x16)) 8)))) x14 x15 (wrap64 (x16 + 1))) else (laws_changed.l0 k x1 y109 x14 x15 (wrap64 (x16 + 1))))) else (none)) else (none)) else (none)) else (none)) else (none)) else (some x7)
def laws_changed.f (k : Nat) (l0 : List Int) (a1 : Int) (l2 : List Bool) : Option (List Int) := (some (([] : List Int) : List Int)).bind fun y101 => (if y101.length + l0.length < 140737488355328 then (laws_changed.l0 k a1 (y101 ++ l0) l2 (l2.length : Int) 0) else (none))
def laws_changed.T6 : Bool × List (List Nat × List Nat) := (true, [([], []), ([], []), ([1], [1]), ([0, 2], [0, 2]), ([3], [3]), ([], []), ([5], [5]), ([6], [6]), ([4, 7], [4, 7]), ([0, 2, 0, 1, 2, 3, 4, 5, 6, 7, 8], [0, 2]), ([9, 8, 0, 1, 2, 3, 4, 5, 6, 7, 8], [8, 9])])
def laws_changed.B6 : List Nat := [0, 0, 2, 7, 15, 0, 32, 96, 255, 511, 1023]
theorem laws_changed.tab6 : rtab .any (opsOf Tryd.f10 6) = laws_changed.T6 := by kernel_rfl
theorem laws_changed.bits6 : waitsOk laws_changed.T6.2 laws_changed.B6 = true := by kernel_rfl
def laws_changed.T8 : Bool × List (List Nat × List Nat) := (true, [([], []), ([], []), ([1], [1]), ([0, 2], [0, 2]), ([3], [3]), ([], []), ([5], [5]), ([6], [6]), ([4, 7], [4, 7]), ([0, 2, 0, 1, 2, 3, 4, 5, 6, 7, 8], [0, 2]), ([9, 8, 0, 1, 2, 3, 4, 5, 6, 7, 8], [8, 9])])
def laws_changed.B8 : List Nat := [0, 0, 2, 7, 15, 0, 32, 96, 255, 511, 1023]
theorem laws_changed.tab8 : rtab .any (opsOf Tryd.f10 8) = laws_changed.T8 := by kernel_rfl
theorem laws_changed.bits8 : waitsOk laws_changed.T8.2 laws_changed.B8 = true := by kernel_rfl
set_option maxHeartbeats 8000000 in
set_option maxRecDepth 100000 in
theorem laws_changed.calls (k : Nat) (A0 : Option Addr) (c0 : Nat) (l0 : List Int) (a1 : Int) (A2 : Option Addr) (c2 : Nat) (l2 : List Bool) (r : List Int) (w : World) (hr0 : Kd.C (Kd.int .u8) w A0 l0.length l0) (hc0 : l0.length ≤ c0) (hr2 : Kd.C Kd.bool w A2 l2.length l2) (hc2 : l2.length ≤ c2) (h : laws_changed.f k l0 a1 l2 = some r) :
  Calls Tryd.prog 10 #[.slice A0 l0.length c0, .int .i64 a1, .slice A2 l2.length c2] w fun e w' => ∃ v0_ : Value, e = .returned (v0_) ∧ Kd.R (Kd.int .u8) 5 w' w.heap.size (fun _ => True) v0_ r ∧ Below w.heap.size w w' := by
 have HR0 := a0_ hr0
 have HC0 := a0_ hc0
 clear hr0 hc0
 have HR2 := a0_ hr2
 have HC2 := a0_ hc2
 clear hr2 hc2
 have HB := a0_ (Below.refl w.heap.size w)
 have H : ((some (([] : List Int) : List Int)).bind fun y101 => (if y101.length + l0.length < 140737488355328 then (laws_changed.l0 k a1 (y101 ++ l0) l2 (l2.length : Int) 0) else (none))) = some r := h
 clear h
 obtain ⟨y101, hy101⟩ : ∃ y_ : List Int, y_ = (([] : List Int)) := ⟨_, rfl⟩
 replace H : (if y101.length + l0.length < 140737488355328 then (laws_changed.l0 k a1 (y101 ++ l0) l2 (l2.length : Int) 0) else (none)) = some r := by first | (rw [hy101]; with_reducible exact H) | (have H2_ := (o2_ _ _).symm.trans H; rw [hy101]; with_reducible exact H2_) | (have H2_ := (o2_ _ _).symm.trans H; with_reducible exact H2_) | with_reducible exact H | (rw [hy101]; exact H) | exact H
 have Ny101 := a0_ hy101
 clear hy101
 by_cases c4 : y101.length + l0.length < 140737488355328
 ·
  rw [if_pos c4] at H
  have LMc4 := a0_ c4
  clear c4
  obtain ⟨y104, hy104⟩ : ∃ y_ : List Int, y_ = (y101 ++ l0) := ⟨_, rfl⟩
  replace H : (laws_changed.l0 k a1 y104 l2 (l2.length : Int) 0) = some r := by first | (rw [hy104]; with_reducible exact H) | (have H2_ := (o2_ _ _).symm.trans H; rw [hy104]; with_reducible exact H2_) | (have H2_ := (o2_ _ _).symm.trans H; with_reducible exact H2_) | with_reducible exact H | (rw [hy104]; exact H) | exact H
  have Ny104 := a0_ hy104
  clear hy104
  have H' := a0_ H
  clear H
  go_enter Tryd.func10, Tryd.ntmps10
  go_wp2_with (first | ((with_reducible refine gate_dst (N := 11) rfl ?_); refine Kd.R_lit (Kd.int .u8) _ 5 ?hg (N := 11) ?hd (xs := ([] : List Int)) (inner := []) (ok := fun _ => True) (okp := fun _ => True) ?hr ?hp (fun _ hk => hk) trivial (Below.refl _ _) (Nat.le_refl _) (by simp) ?_; (case hd => rfl); (case hg => rfl); (case hr => first | (go_simp; done) | (go_simp; rfl)); (case hp => exact (Reps.none _ _)); intro v102 w5 ho6 hb hg_ hnew_; clear hg_ hnew_; (first | rw [← Ny101.out] at ho6 | (simp only [Int.reduceToNat] at ho6; rw [← Ny101.out] at ho6)); have n0_ := a0_ (Kd.R_lower ho6 (below_size (by repeat (first | (with_reducible first | exact HB.out | apply b1_ | apply b2_ | apply b3_) | exact HB.out)))); have n1_ := a0_ (below_step (by repeat (first | (with_reducible first | exact HB.out | apply b1_ | apply b2_ | apply b3_) | exact HB.out)) hb); clear HB; have HO103 := n0_; have HB := n1_; clear n0_ n1_; clear hb ho6) | ((with_reducible refine gate_builtin (b := .append) (xs := #[.tmp 11, .tmp 12]) rfl ?_); at_builtin; refine Kd.R_append_rows (Kd.int .u8) (w0 := w) w.heap.size rfl (.tmp 11) (.tmp 12) 22 5 (.int .u8 0) 1 rfl Tryd.underlying22 info5 rfl (by decide) (by omega) v102 y101 l0 _ _ _ (fun _ => True) (fun _ => False) rfl rfl ?aO ?aR (fun _ _ h => h) (fun _ h => h.elim) ?aF ?aB ?aS ?aL ?_; (case aR => repeat (first | exact (Kd.C_below HR0.out HB.out) | (with_reducible refine Kd.C_alloc ?_ _) | (with_reducible refine Kd.C_drewN ?_ _) | (with_reducible refine Kd.C_drew ?_))); (case aB => exact (by repeat (first | (with_reducible first | exact HB.out | apply b1_ | apply b2_ | apply b3_) | exact HB.out))); (case aF => exact (fun _ _ => trivial)); (case aO => exact (by (with_reducible repeat (first | apply r1_ | apply r2_ | apply r3_)); exact HO103.out)); (case aS => exact (below_size (by repeat (first | (with_reducible first | exact HB.out | apply b1_ | apply b2_ | apply b3_) | exact HB.out)))); (case aL => have := LMc4.out; omega); intro v105 w7 ho hb hg hat; rw [← Ny104.out] at ho; have n0_ := a0_ (hb); have n1_ := a0_ (ho); clear HB; clear HO103; have HB := n0_; have HO106 := n1_; clear n0_ n1_; clear ho hb hg hat))
  go_loopg [16] k (fun kq v16 w' => ∃ (x7_1 : List Int) (x16_1 : Int), v16 = .int .i64 x16_1 ∧ Aside0 (laws_changed.l0 kq a1 x7_1 l2 (l2.length : Int) x16_1 = some r) ∧ Aside0 (kq ≤ k) ∧ Aside0 (Kd.R (Kd.int .u8) 5 w' w.heap.size (fun _ => True) v105 x7_1) ∧ Aside0 (Below w.heap.size w w'))
  case atStart => exact ⟨(y104), (0), (by first | rfl | (simp; done) | (simp [*]; done)), H', ⟨Nat.le_refl _⟩, ⟨by (with_reducible repeat (first | apply r1_ | apply r2_ | apply r3_)); exact HO106.out⟩, ⟨by repeat (first | (with_reducible first | exact HB.out | apply b1_ | apply b2_ | apply b3_) | exact HB.out)⟩⟩
  case round =>
   clear H'
   try clear c1
   try clear c2
   try clear p2
   try clear c4
   obtain ⟨x7_1, x16_1, rfl, HA, HK1, HO_7, HB⟩ := hrel
   cases gk with
   | zero => exact absurd HA.out (by simp [laws_changed.l0])
   | succ k1 =>
    have H := HA.out
    clear HA
    simp only [laws_changed.l0] at H
    by_cases c8 : x16_1 < (l2.length : Int)
    ·
     rw [if_pos c8] at H
     have c8b0 : decide (x16_1 < (l2.length : Int)) = true := d2_ c8
     clear c8
     by_cases c9 : 0 ≤ x16_1
     ·
      rw [if_pos c9] at H
      have c9b0 : decide (0 ≤ x16_1) = true := d2_ c9
      clear c9
      by_cases c10 : x16_1 < (l2.length : Int)
      ·
       rw [if_pos c10] at H
       have c10b0 : decide (x16_1 < (l2.length : Int)) = true := d2_ c10
       clear c10
       obtain ⟨ji11, hji11⟩ : ∃ j_ : Int, (wrap64 (Int.tdiv (wrap64 (a1 + x16_1)) 8)) = j_ := ⟨_, rfl⟩
       replace H : (if 0 ≤ (ji11) then (if (ji11) < (x7_1.length : Int) then (if 0 ≤ (Int.tmod (wrap64 (a1 + x16_1)) 8) then ((some (x7_1.set ((ji11) : Int).toNat (Go.bits .andNot .u8 (rd x7_1 (ji11)) (shl .u8 1 (Int.tmod (wrap64 (a1 + x16_1)) 8))) : List Int)).bind fun y109 => (if rdOf false l2 x16_1 = true then (laws_changed.l0 k1 a1 (y109.set ((ji11) : Int).toNat (Go.bits .or .u8 (rd y109 (ji11)) (shl .u8 1 (Int.tmod (wrap64 (a1 + x16_1)) 8)))) l2 (l2.length : Int) (wrap64 (x16_1 + 1))) else (laws_changed.l0 k1 a1 y109 l2 (l2.length : Int) (wrap64 (x16_1 + 1))))) else (none)) else (none)) else (none)) = some r := by first | (rw [hji11] at H; exact H) | (simp only [hji11] at H ⊢; exact H)
       have hji11w : (IntKind.i64.wrap (Int.tdiv (wrap64 (a1 + x16_1)) 8)) = ji11 := (i64_w _).trans hji11
       by_cases c12 : 0 ≤ (ji11)
       ·
        rw [if_pos c12] at H
        have c12b0 : decide (0 ≤ (ji11)) = true := d2_ c12
        clear c12
        by_cases c13 : (ji11) < (x7_1.length : Int)
        ·
         rw [if_pos c13] at H
         have c13b0 : decide ((ji11) < (x7_1.length : Int)) = true := d2_ c13
         clear c13
         obtain ⟨ji14, hji14⟩ : ∃ j_ : Int, (Int.tmod (wrap64 (a1 + x16_1)) 8) = j_ := ⟨_, rfl⟩
         replace H : (if 0 ≤ (ji14) then ((some (x7_1.set ((ji11) : Int).toNat (Go.bits .andNot .u8 (rd x7_1 (ji11)) (shl .u8 1 (ji14))) : List Int)).bind fun y109 => (if rdOf false l2 x16_1 = true then (laws_changed.l0 k1 a1 (y109.set ((ji11) : Int).toNat (Go.bits .or .u8 (rd y109 (ji11)) (shl .u8 1 (ji14)))) l2 (l2.length : Int) (wrap64 (x16_1 + 1))) else (laws_changed.l0 k1 a1 y109 l2 (l2.length : Int) (wrap64 (x16_1 + 1))))) else (none)) = some r := by first | (rw [hji14] at H; exact H) | (simp only [hji14] at H ⊢; exact H)
         by_cases c15 : 0 ≤ (ji14)
         ·
          rw [if_pos c15] at H
          have c15b0 := eq_true c15
          have c15b1 : decide (0 ≤ (ji14)) = true := d2_ c15
          clear c15
          obtain ⟨ji16, hji16⟩ : ∃ j_ : Int, (shl .u8 1 (ji14)) = j_ := ⟨_, rfl⟩
          replace H : ((some (x7_1.set ((ji11) : Int).toNat (Go.bits .andNot .u8 (rd x7_1 (ji11)) (ji16)) : List Int)).bind fun y109 => (if rdOf false l2 x16_1 = true then (laws_changed.l0 k1 a1 (y109.set ((ji11) : Int).toNat (Go.bits .or .u8 (rd y109 (ji11)) (ji16))) l2 (l2.length : Int) (wrap64 (x16_1 + 1))) else (laws_changed.l0 k1 a1 y109 l2 (l2.length : Int) (wrap64 (x16_1 + 1))))) = some r := by first | (rw [hji16] at H; exact H) | (simp only [hji16] at H ⊢; exact H)
          have hji16_ : (IntKind.u8.wrap (1 * 2 ^ min (ji14).toNat 8)) = ji16 := hji16
          have hji16z : (ji14) ≤ 8 → (IntKind.u8.wrap (1 * 2 ^ (ji14).toNat)) = ji16 := shl_small hji16
          have hji16u : (IntKind.u8.wrap (2 ^ min (ji14).toNat 8)) = ji16 := by have h_ := hji16_; rw [Int.one_mul] at h_; exact h_
          have hji16v : (ji14) ≤ 8 → (IntKind.u8.wrap (2 ^ (ji14).toNat)) = ji16 := fun hle_ => by have h_ := hji16z hle_; rw [Int.one_mul] at h_; exact h_
          obtain ⟨y109, hy109⟩ : ∃ y_ : List Int, y_ = (x7_1.set ((ji11) : Int).toNat (Go.bits .andNot .u8 (rd x7_1 (ji11)) (ji16))) := ⟨_, rfl⟩
          replace H : (if rdOf false l2 x16_1 = true then (laws_changed.l0 k1 a1 (y109.set ((ji11) : Int).toNat (Go.bits .or .u8 (rd y109 (ji11)) (ji16))) l2 (l2.length : Int) (wrap64 (x16_1 + 1))) else (laws_changed.l0 k1 a1 y109 l2 (l2.length : Int) (wrap64 (x16_1 + 1)))) = some r := by first | (rw [hy109]; with_reducible exact H) | (have H2_ := (o2_ _ _).symm.trans H; rw [hy109]; with_reducible exact H2_) | (have H2_ := (o2_ _ _).symm.trans H; with_reducible exact H2_) | with_reducible exact H | (rw [hy109]; exact H) | exact H
          have Ny109 := a0_ hy109
          clear hy109
          obtain ⟨bq18, hbq18⟩ : ∃ b_ : Bool, b_ = (rdOf false l2 x16_1) := ⟨_, rfl⟩
          replace H : (if bq18 = true then (laws_changed.l0 k1 a1 (y109.set ((ji11) : Int).toNat (Go.bits .or .u8 (rd y109 (ji11)) (ji16))) l2 (l2.length : Int) (wrap64 (x16_1 + 1))) else (laws_changed.l0 k1 a1 y109 l2 (l2.length : Int) (wrap64 (x16_1 + 1)))) = some r := by rw [← hbq18] at H; exact H
          have Nbq18 := a0_ hbq18
          clear hbq18
          by_cases c19 : bq18 = true
          ·
           subst c19
           have H1 : (laws_changed.l0 k1 a1 (y109.set ((ji11) : Int).toNat (Go.bits .or .u8 (rd y109 (ji11)) (ji16))) l2 (l2.length : Int) (wrap64 (x16_1 + 1))) = some r := by rw [if_pos rfl] at H; exact H
           clear H
           have H := H1
           clear H1
           have c20b0 := eq_true (d1_ (by first | (with_reducible assumption) | assumption) : 0 ≤ (ji14))
           obtain ⟨y111, hy111⟩ : ∃ y_ : List Int, y_ = (y109.set ((ji11) : Int).toNat (Go.bits .or .u8 (rd y109 (ji11)) (ji16))) := ⟨_, rfl⟩
           replace H : (laws_changed.l0 k1 a1 y111 l2 (l2.length : Int) (wrap64 (x16_1 + 1))) = some r := by first | (rw [hy111]; with_reducible exact H) | (have H2_ := (o2_ _ _).symm.trans H; rw [hy111]; with_reducible exact H2_) | (have H2_ := (o2_ _ _).symm.trans H; with_reducible exact H2_) | with_reducible exact H | (rw [hy111]; exact H) | exact H
           have Ny111 := a0_ hy111
           clear hy111
           have H' := a0_ H
           clear H
           have p107 : 0 ≤ (x16_1 : Int) := d1_ (by first | (with_reducible assumption) | assumption)
           have q107 : x16_1 < (l2.length : Int) := d1_ (by first | (with_reducible assumption) | assumption)
           obtain ⟨ad107, e107, hx107_0⟩ := Kd.at_bool HR2.out x16_1 p107 q107
           (try rw [← Nbq18.out] at hx107_0)
           cases e107
           replace hx107_0 := (HB.out.cell (World.block_lt_of_cell? w _ hx107_0)).trans hx107_0
           replace p107 := eq_true p107
           replace q107 := eq_true q107
           try go_wp2
           have n0_ := a0_ (r3_ HO_7.out)
           have n1_ := a0_ (b3_ HB.out)
           clear HO_7
           clear HB
           have HO_7 := n0_
           have HB := n1_
           clear n0_ n1_
           obtain ⟨Ao24, co24, eo24⟩ := Kd.R_slice HO_7.out
           (first | subst eo24 | (injection eo24 with f1_ f2_ f3_; have f4_ := f1_.symm; have f5_ := f3_.symm; clear f1_ f2_ f3_; subst f4_; subst f5_))
           have p108 : 0 ≤ ((ji11) : Int) := d1_ (by first | (with_reducible assumption) | assumption)
           have q108 : (ji11) < (x7_1.length : Int) := d1_ (by first | (with_reducible assumption) | assumption)
           obtain ⟨ad108, e108, hx108_0⟩ := Kd.at_int (Kd.R_reads' HO_7.out).2.2 (ji11) p108 q108
           cases e108
           replace p108 := eq_true p108
           replace q108 := eq_true q108
           have p17 : 0 ≤ ((ji11) : Int) := d1_ (by first | (with_reducible assumption) | assumption)
           have q17 : ((ji11) : Int) < ((x7_1.length : Int) : Int) := d1_ (by first | (with_reducible assumption) | assumption)
           obtain ⟨go17, co17, eo17, gb17, gl17, cl17, HG17⟩ := Kd.R_form HO_7.out (by omega)
           (first | cases eo17 | (injection eo17 with ea_ en_ ec_; (first | subst ea_ | (injection ea_ with ea_; subst ea_)); subst ec_; clear en_))
           have GB17 := a0_ gb17
           have GG17 := a0_ HG17
           clear gb17 gl17 HG17
           (first | simp only [add_plain] at hx108_0 | skip)
           obtain ⟨hx17_0, hf17_0⟩ := Kd.R_celln 0 HO_7.out ((ji11) : Int) p17 q17
           replace p17 := eq_true p17
           replace q17 := eq_true q17
           have HP25 := Kd.R_putn HO_7.out ((ji11) : Int) (Go.bits .andNot .u8 (rd x7_1 (ji11)) (ji16))
           rw [← Ny109.out] at HP25
           have HQ25 := a0_ HP25
           clear HP25
           refine start_ (n := 11) (S := fun w' => w'.cell? ⟨go17, ((ji11)).toNat, none⟩ = some (.int .u8 (rd x7_1 (ji11)))) (ds := [10]) #[false, false, false, false, false, false, false, false, false, false, false] (by kernel_rfl) rfl rfl (hx108_0) (fun hHeld => ?_); refine with_tabW laws_changed.tab6 laws_changed.bits6 (fun HT_ HW_ => ?_)
           generalize wr.drew = w23 at HO_7 HB GG17 HQ25 hf17_0 hx108_0 hx17_0 hHeld ⊢
           refine pure_ (i := 0) (N := some 24) (v := ?_) (a' := ?_) #[true, false, false, false, false, false, false, false, false, false, false] rfl rfl (any_of HT_.out (by kernel_rfl)) (fun _ _ _ h => h) (Or.inl ⟨by rfl, ?_⟩) ?_ ?_
           rotate_left
           ·
            intro w'
            go_simp
            with_reducible rfl
           rotate_left
           ·
            simp only [Act.put, s1_, s2_, s3_, i64_w, i32_w]
            rfl
           refine pure_ (i := 1) (N := some 25) (v := ?_) (a' := ?_) #[true, true, false, false, false, false, false, false, false, false, false] rfl rfl (any_of HT_.out (by kernel_rfl)) (fun _ _ _ h => h) (Or.inl ⟨by rfl, ?_⟩) ?_ ?_
           rotate_left
           ·
            intro w'
            go_simp
            with_reducible rfl
           rotate_left
           ·
            simp only [Act.put, s1_, s2_, s3_, i64_w, i32_w]
            rfl
           refine pure_ (i := 2) (N := some 26) (v := ?_) (a' := ?_) #[true, true, true, false, false, false, false, false, false, false, false] rfl rfl (any_of HT_.out (by kernel_rfl)) (fun _ _ _ h => h) (Or.inl ⟨by rfl, ?_⟩) ?_ ?_
           rotate_left
           ·
            intro w'
            go_simp
            with_reducible rfl
           rotate_left
           ·
            simp only [Act.put, s1_, s2_, s3_, i64_w, i32_w]
            rfl
           refine pure_ (i := 3) (N := some 27) (v := ?_) (a' := ?_) #[true, true, true, true, false, false, false, false, false, false, false] rfl rfl (any_of HT_.out (by kernel_rfl)) (fun _ _ _ h => h) (Or.inl ⟨by rfl, ?_⟩) ?_ ?_
           rotate_left
           ·
            intro w'
            go_simp
            with_reducible rfl
           rotate_left
           ·
            simp only [Act.put, s1_, s2_, s3_, i64_w, i32_w]
            rfl
           refine pure_ (i := 5) (N := some 29) (v := ?_) (a' := ?_) #[true, true, true, true, false, true, false, false, false, false, false] rfl rfl (any_of HT_.out (by kernel_rfl)) (fun _ _ _ h => h) (Or.inl ⟨by rfl, ?_⟩) ?_ ?_
           rotate_left
           ·
            intro w'
            go_simp
            with_reducible rfl
           rotate_left
           ·
            simp only [Act.put, s1_, s2_, s3_, i64_w, i32_w]
            rfl
           refine pure_ (i := 6) (N := some 30) (v := ?_) (a' := ?_) #[true, true, true, true, false, true, true, false, false, false, false] rfl rfl (any_of HT_.out (by kernel_rfl)) (fun _ _ _ h => h) (Or.inl ⟨by rfl, ?_⟩) ?_ ?_
           rotate_left
           ·
            intro w'
            go_simp
            with_reducible rfl
           rotate_left
           ·
            simp only [Act.put, s1_, s2_, s3_, i64_w, i32_w]
            rfl
           refine pure_ (i := 7) (N := some 31) (v := ?_) (a' := ?_) #[true, true, true, true, false, true, true, true, false, false, false] rfl rfl (any_of HT_.out (by kernel_rfl)) (fun _ _ _ h => h) (Or.inl ⟨by rfl, ?_⟩) ?_ ?_
           rotate_left
           ·
            intro w'
            go_simp
            with_reducible rfl
           rotate_left
           ·
            simp only [Act.put, s1_, s2_, s3_, i64_w, i32_w]
            rfl
           refine take_ (i := 4) (N := some 28) (v := ?_) (a' := ?_) #[true, true, true, true, true, true, true, true, false, false, false] rfl rfl (take_ofW HT_.out HW_.out (by kernel_rfl)) (fun _ _ _ h => h) (Or.inl ⟨by rfl, ?_⟩) hHeld ?_ ?_
           rotate_left
           ·
            intro w' s0
            go_simp
            with_reducible rfl
           rotate_left
           ·
            simp only [Act.put, s1_, s2_, s3_, i64_w, i32_w]
            rfl
           refine pure_ (i := 8) (N := some 32) (v := ?_) (a' := ?_) #[true, true, true, true, true, true, true, true, true, false, false] rfl rfl (any_of HT_.out (by kernel_rfl)) (fun _ _ _ h => h) (Or.inl ⟨by rfl, ?_⟩) ?_ ?_
           rotate_left
           ·
            intro w'
            go_simp
            with_reducible rfl
           rotate_left
           ·
            simp only [Act.put, s1_, s2_, s3_, i64_w, i32_w]
            rfl
           refine pure_ (i := 9) (N := some 33) (v := ?_) (a' := ?_) #[true, true, true, true, true, true, true, true, true, true, false] rfl rfl (any_of HT_.out (by kernel_rfl)) (fun _ _ _ h => h) (Or.inl ⟨by rfl, ?_⟩) ?_ ?_
           rotate_left
           ·
            intro w'
            go_simp
            with_reducible rfl
           rotate_left
           ·
            simp only [Act.put, s1_, s2_, s3_, i64_w, i32_w]
            rfl
           refine last_ (i := 10) (N := none) #[true, true, true, true, true, true, true, true, true, true, true] rfl rfl (one_of HT_.out (by kernel_rfl)) (by decide) (fun K hK => ?_)
           refine skip_ (w1 := ?_) (by rfl) rfl ?_ ?_
           rotate_left
           ·
            go_simp
            rfl
           refine hK.out _ _ ?_
           clear hK K
           refine done_ (done_of HT_.out (by kernel_rfl)) ?_
           try go_wp2
           have n0_ : Aside0 (Kd.R (Kd.int .u8) 5 (w23.setCell ⟨go17, ((ji11) : Int).toNat, none⟩ (.int .u8 (Go.bits .andNot .u8 (rd x7_1 (ji11)) (ji16)))) w.heap.size (fun _ => True) (.slice (some ⟨go17, 0, none⟩) x7_1.length co24) y109) := ⟨by (with_reducible repeat (first | apply r1_ | apply r2_ | apply r3_)); exact HQ25.out⟩
           have n1_ : Aside0 (Below w.heap.size w (w23.setCell ⟨go17, ((ji11) : Int).toNat, none⟩ (.int .u8 (Go.bits .andNot .u8 (rd x7_1 (ji11)) (ji16))))) := ⟨by repeat (first | (with_reducible first | exact HB.out | apply b1_ | apply b2_ | apply b3_ | refine b4_ ?_ GB17.out) | exact HB.out)⟩
           (try clear HO_7)
           (try clear HB)
           generalize (w23.setCell ⟨go17, ((ji11) : Int).toNat, none⟩ (.int .u8 (Go.bits .andNot .u8 (rd x7_1 (ji11)) (ji16)))) = w26 at n0_ n1_ ⊢
           have HO_7 := n0_
           have HB := n1_
           clear n0_ n1_
           have n0_ := a0_ (r3_ HO_7.out)
           have n1_ := a0_ (b3_ HB.out)
           clear HO_7
           clear HB
           have HO_7 := n0_
           have HB := n1_
           clear n0_ n1_
           have p110 : 0 ≤ ((ji11) : Int) := d1_ (by first | (with_reducible assumption) | assumption)
           have q110 : (ji11) < (y109.length : Int) := (by have h_ : ((ji11) : Int) < ((x7_1.length : Int) : Int) := d1_ (by first | (with_reducible assumption) | assumption); first | (have e_ := (Kd.R_reads' HO_7.out).1; omega) | simpa only [Ny109.out, List.length_set] using h_)
           have ql110 : (((ji11) : Int) < ((x7_1.length : Int) : Int)) = True := eq_true (d1_ (by first | (with_reducible assumption) | assumption))
           obtain ⟨ad110, e110, hx110_0⟩ := Kd.at_int (Kd.R_reads' HO_7.out).2.2 (ji11) p110 q110
           obtain rfl : (⟨go17, 0, none⟩ : Addr) = ad110 := (by injection e110)
           (first | simp only [add_plain] at hx110_0 | simp only [add_at] at hx110_0 | simp only [Addr.add, Nat.zero_add] at hx110_0 | skip)
           replace p110 := eq_true p110
           replace q110 := eq_true q110
           have p22 : 0 ≤ ((ji11) : Int) := d1_ (by first | (with_reducible assumption) | assumption)
           have q22 : ((ji11) : Int) < ((x7_1.length : Int) : Int) := d1_ (by first | (with_reducible assumption) | assumption)
           obtain ⟨hx22_0, hf22_0⟩ := Kd.R_celln 0 HO_7.out ((ji11) : Int) p22 q22
           replace p22 := eq_true p22
           replace q22 := eq_true q22
           have HP28 := Kd.R_putn HO_7.out ((ji11) : Int) (Go.bits .or .u8 (rd y109 (ji11)) (ji16))
           rw [← Ny111.out] at HP28
           have HQ28 := a0_ HP28
           clear HP28
           refine start_ (n := 11) (S := fun w' => w'.cell? ⟨go17, ((ji11)).toNat, none⟩ = some (.int .u8 (rd y109 (ji11)))) (ds := [10]) #[false, false, false, false, false, false, false, false, false, false, false] (by kernel_rfl) rfl rfl (hx110_0) (fun hHeld => ?_); refine with_tabW laws_changed.tab8 laws_changed.bits8 (fun HT_ HW_ => ?_)
           generalize w26.drew = w27 at HO_7 HB HQ25 HQ28 hf22_0 hx110_0 hx22_0 hHeld ⊢
           refine pure_ (i := 0) (N := some 35) (v := ?_) (a' := ?_) #[true, false, false, false, false, false, false, false, false, false, false] rfl rfl (any_of HT_.out (by kernel_rfl)) (fun _ _ _ h => h) (Or.inl ⟨by rfl, ?_⟩) ?_ ?_
           rotate_left
           ·
            intro w'
            go_simp
            with_reducible rfl
           rotate_left
           ·
            simp only [Act.put, s1_, s2_, s3_, i64_w, i32_w]
            rfl
           refine pure_ (i := 1) (N := some 36) (v := ?_) (a' := ?_) #[true, true, false, false, false, false, false, false, false, false, false] rfl rfl (any_of HT_.out (by kernel_rfl)) (fun _ _ _ h => h) (Or.inl ⟨by rfl, ?_⟩) ?_ ?_
           rotate_left
           ·
            intro w'
            go_simp
            with_reducible rfl
           rotate_left
           ·
            simp only [Act.put, s1_, s2_, s3_, i64_w, i32_w]
            rfl
           refine pure_ (i := 2) (N := some 37) (v := ?_) (a' := ?_) #[true, true, true, false, false, false, false, false, false, false, false] rfl rfl (any_of HT_.out (by kernel_rfl)) (fun _ _ _ h => h) (Or.inl ⟨by rfl, ?_⟩) ?_ ?_
           rotate_left
           ·
            intro w'
            go_simp
            with_reducible rfl
           rotate_left
           ·
            simp only [Act.put, s1_, s2_, s3_, i64_w, i32_w]
            rfl
           refine pure_ (i := 3) (N := some 38) (v := ?_) (a' := ?_) #[true, true, true, true, false, false, false, false, false, false, false] rfl rfl (any_of HT_.out (by kernel_rfl)) (fun _ _ _ h => h) (Or.inl ⟨by rfl, ?_⟩) ?_ ?_
           rotate_left
           ·
            intro w'
            go_simp
            with_reducible rfl
           rotate_left
           ·
            simp only [Act.put, s1_, s2_, s3_, i64_w, i32_w]
            rfl
           refine pure_ (i := 5) (N := some 40) (v := ?_) (a' := ?_) #[true, true, true, true, false, true, false, false, false, false, false] rfl rfl (any_of HT_.out (by kernel_rfl)) (fun _ _ _ h => h) (Or.inl ⟨by rfl, ?_⟩) ?_ ?_
           rotate_left
           ·
            intro w'
            go_simp
            with_reducible rfl
           rotate_left
           ·
            simp only [Act.put, s1_, s2_, s3_, i64_w, i32_w]
            rfl
           refine pure_ (i := 6) (N := some 41) (v := ?_) (a' := ?_) #[true, true, true, true, false, true, true, false, false, false, false] rfl rfl (any_of HT_.out (by kernel_rfl)) (fun _ _ _ h => h) (Or.inl ⟨by rfl, ?_⟩) ?_ ?_
           rotate_left
           ·
            intro w'
            go_simp
            with_reducible rfl
           rotate_left
           ·
            simp only [Act.put, s1_, s2_, s3_, i64_w, i32_w]
            rfl
           refine pure_ (i := 7) (N := some 42) (v := ?_) (a' := ?_) #[true, true, true, true, false, true, true, true, false, false, false] rfl rfl (any_of HT_.out (by kernel_rfl)) (fun _ _ _ h => h) (Or.inl ⟨by rfl, ?_⟩) ?_ ?_
           rotate_left
           ·
            intro w'
            go_simp
            with_reducible rfl
           rotate_left
           ·
            simp only [Act.put, s1_, s2_, s3_, i64_w, i32_w]
            rfl
           refine take_ (i := 4) (N := some 39) (v := ?_) (a' := ?_) #[true, true, true, true, true, true, true, true, false, false, false] rfl rfl (take_ofW HT_.out HW_.out (by kernel_rfl)) (fun _ _ _ h => h) (Or.inl ⟨by rfl, ?_⟩) hHeld ?_ ?_
           rotate_left
           ·
            intro w' s0
            go_simp
            with_reducible rfl
           rotate_left
           ·
            simp only [Act.put, s1_, s2_, s3_, i64_w, i32_w]
            rfl
           refine pure_ (i := 8) (N := some 43) (v := ?_) (a' := ?_) #[true, true, true, true, true, true, true, true, true, false, false] rfl rfl (any_of HT_.out (by kernel_rfl)) (fun _ _ _ h => h) (Or.inl ⟨by rfl, ?_⟩) ?_ ?_
           rotate_left
           ·
            intro w'
            go_simp
            with_reducible rfl
           rotate_left
           ·
            simp only [Act.put, s1_, s2_, s3_, i64_w, i32_w]
            rfl
           refine pure_ (i := 9) (N := some 44) (v := ?_) (a' := ?_) #[true, true, true, true, true, true, true, true, true, true, false] rfl rfl (any_of HT_.out (by kernel_rfl)) (fun _ _ _ h => h) (Or.inl ⟨by rfl, ?_⟩) ?_ ?_
           rotate_left
           ·
            intro w'
            go_simp
            with_reducible rfl
           rotate_left
           ·
            simp only [Act.put, s1_, s2_, s3_, i64_w, i32_w]
            rfl
           refine last_ (i := 10) (N := none) #[true, true, true, true, true, true, true, true, true, true, true] rfl rfl (one_of HT_.out (by kernel_rfl)) (by decide) (fun K hK => ?_)
           refine skip_ (w1 := ?_) (by rfl) rfl ?_ ?_
           rotate_left
           ·
            go_simp
            rfl
           refine hK.out _ _ ?_
           clear hK K
           refine done_ (done_of HT_.out (by kernel_rfl)) ?_
           try go_wp2
           go_roundg k1
           case measure => have := HK1.out; omega
           case rel => exact ⟨(y111), (wrap64 (x16_1 + 1)), (by first | rfl | (simp; done) | (simp [*]; done)), H', ⟨by have := HK1.out; omega⟩, ⟨by (with_reducible repeat (first | apply r1_ | apply r2_ | apply r3_)); exact HQ28.out⟩, ⟨by repeat (first | (with_reducible first | exact HB.out | apply b1_ | apply b2_ | apply b3_ | refine b4_ ?_ GB17.out) | exact HB.out)⟩⟩
          ·
           replace c19 := Bool.eq_false_iff.mpr c19
           subst c19
           have H1 : (laws_changed.l0 k1 a1 y109 l2 (l2.length : Int) (wrap64 (x16_1 + 1))) = some r := by rw [if_neg (show ¬ (false = true) by decide)] at H; exact H
           clear H
           have H := H1
           clear H1
           have H' := a0_ H
           clear H
           have p107 : 0 ≤ (x16_1 : Int) := d1_ (by first | (with_reducible assumption) | assumption)
           have q107 : x16_1 < (l2.length : Int) := d1_ (by first | (with_reducible assumption) | assumption)
           obtain ⟨ad107, e107, hx107_0⟩ := Kd.at_bool HR2.out x16_1 p107 q107
           (try rw [← Nbq18.out] at hx107_0)
           cases e107
           replace hx107_0 := (HB.out.cell (World.block_lt_of_cell? w _ hx107_0)).trans hx107_0
           replace p107 := eq_true p107
           replace q107 := eq_true q107
           try go_wp2
           have n0_ := a0_ (r3_ HO_7.out)
           have n1_ := a0_ (b3_ HB.out)
           clear HO_7
           clear HB
           have HO_7 := n0_
           have HB := n1_
           clear n0_ n1_
           obtain ⟨Ao30, co30, eo30⟩ := Kd.R_slice HO_7.out
           (first | subst eo30 | (injection eo30 with f1_ f2_ f3_; have f4_ := f1_.symm; have f5_ := f3_.symm; clear f1_ f2_ f3_; subst f4_; subst f5_))
           have p108 : 0 ≤ ((ji11) : Int) := d1_ (by first | (with_reducible assumption) | assumption)
           have q108 : (ji11) < (x7_1.length : Int) := d1_ (by first | (with_reducible assumption) | assumption)
           obtain ⟨ad108, e108, hx108_0⟩ := Kd.at_int (Kd.R_reads' HO_7.out).2.2 (ji11) p108 q108
           cases e108
           replace p108 := eq_true p108
           replace q108 := eq_true q108
           have p17 : 0 ≤ ((ji11) : Int) := d1_ (by first | (with_reducible assumption) | assumption)
           have q17 : ((ji11) : Int) < ((x7_1.length : Int) : Int) := d1_ (by first | (with_reducible assumption) | assumption)
           obtain ⟨go17, co17, eo17, gb17, gl17, cl17, HG17⟩ := Kd.R_form HO_7.out (by omega)
           (first | cases eo17 | (injection eo17 with ea_ en_ ec_; (first | subst ea_ | (injection ea_ with ea_; subst ea_)); subst ec_; clear en_))
           have GB17 := a0_ gb17
           have GG17 := a0_ HG17
           clear gb17 gl17 HG17
           (first | simp only [add_plain] at hx108_0 | skip)
           obtain ⟨hx17_0, hf17_0⟩ := Kd.R_celln 0 HO_7.out ((ji11) : Int) p17 q17
           replace p17 := eq_true p17
           replace q17 := eq_true q17
           have HP31 := Kd.R_putn HO_7.out ((ji11) : Int) (Go.bits .andNot .u8 (rd x7_1 (ji11)) (ji16))
           rw [← Ny109.out] at HP31
           have HQ31 := a0_ HP31
           clear HP31
           refine start_ (n := 11) (S := fun w' => w'.cell? ⟨go17, ((ji11)).toNat, none⟩ = some (.int .u8 (rd x7_1 (ji11)))) (ds := [10]) #[false, false, false, false, false, false, false, false, false, false, false] (by kernel_rfl) rfl rfl (hx108_0) (fun hHeld => ?_); refine with_tabW laws_changed.tab6 laws_changed.bits6 (fun HT_ HW_ => ?_)
           generalize wr.drew = w29 at HO_7 HB GG17 HQ31 hf17_0 hx108_0 hx17_0 hHeld ⊢
           refine pure_ (i := 0) (N := some 24) (v := ?_) (a' := ?_) #[true, false, false, false, false, false, false, false, false, false, false] rfl rfl (any_of HT_.out (by kernel_rfl)) (fun _ _ _ h => h) (Or.inl ⟨by rfl, ?_⟩) ?_ ?_
           rotate_left
           ·
            intro w'
            go_simp
            with_reducible rfl
           rotate_left
           ·
            simp only [Act.put, s1_, s2_, s3_, i64_w, i32_w]
            rfl
           refine pure_ (i := 1) (N := some 25) (v := ?_) (a' := ?_) #[true, true, false, false, false, false, false, false, false, false, false] rfl rfl (any_of HT_.out (by kernel_rfl)) (fun _ _ _ h => h) (Or.inl ⟨by rfl, ?_⟩) ?_ ?_
           rotate_left
           ·
            intro w'
            go_simp
            with_reducible rfl
           rotate_left
           ·
            simp only [Act.put, s1_, s2_, s3_, i64_w, i32_w]
            rfl
           refine pure_ (i := 2) (N := some 26) (v := ?_) (a' := ?_) #[true, true, true, false, false, false, false, false, false, false, false] rfl rfl (any_of HT_.out (by kernel_rfl)) (fun _ _ _ h => h) (Or.inl ⟨by rfl, ?_⟩) ?_ ?_
           rotate_left
           ·
            intro w'
            go_simp
            with_reducible rfl
           rotate_left
           ·
            simp only [Act.put, s1_, s2_, s3_, i64_w, i32_w]
            rfl
           refine pure_ (i := 3) (N := some 27) (v := ?_) (a' := ?_) #[true, true, true, true, false, false, false, false, false, false, false] rfl rfl (any_of HT_.out (by kernel_rfl)) (fun _ _ _ h => h) (Or.inl ⟨by rfl, ?_⟩) ?_ ?_
           rotate_left
           ·
            intro w'
            go_simp
            with_reducible rfl
           rotate_left
           ·
            simp only [Act.put, s1_, s2_, s3_, i64_w, i32_w]
            rfl
           refine pure_ (i := 5) (N := some 29) (v := ?_) (a' := ?_) #[true, true, true, true, false, true, false, false, false, false, false] rfl rfl (any_of HT_.out (by kernel_rfl)) (fun _ _ _ h => h) (Or.inl ⟨by rfl, ?_⟩) ?_ ?_
           rotate_left
           ·
            intro w'
            go_simp
            with_reducible rfl
           rotate_left
           ·
            simp only [Act.put, s1_, s2_, s3_, i64_w, i32_w]
            rfl
           refine pure_ (i := 6) (N := some 30) (v := ?_) (a' := ?_) #[true, true, true, true, false, true, true, false, false, false, false] rfl rfl (any_of HT_.out (by kernel_rfl)) (fun _ _ _ h => h) (Or.inl ⟨by rfl, ?_⟩) ?_ ?_
           rotate_left
           ·
            intro w'
            go_simp
            with_reducible rfl
           rotate_left
           ·
            simp only [Act.put, s1_, s2_, s3_, i64_w, i32_w]
            rfl
           refine pure_ (i := 7) (N := some 31) (v := ?_) (a' := ?_) #[true, true, true, true, false, true, true, true, false, false, false] rfl rfl (any_of HT_.out (by kernel_rfl)) (fun _ _ _ h => h) (Or.inl ⟨by rfl, ?_⟩) ?_ ?_
           rotate_left
           ·
            intro w'
            go_simp
            with_reducible rfl
           rotate_left
           ·
            simp only [Act.put, s1_, s2_, s3_, i64_w, i32_w]
            rfl
           refine take_ (i := 4) (N := some 28) (v := ?_) (a' := ?_) #[true, true, true, true, true, true, true, true, false, false, false] rfl rfl (take_ofW HT_.out HW_.out (by kernel_rfl)) (fun _ _ _ h => h) (Or.inl ⟨by rfl, ?_⟩) hHeld ?_ ?_
           rotate_left
           ·
            intro w' s0
            go_simp
            with_reducible rfl
           rotate_left
           ·
            simp only [Act.put, s1_, s2_, s3_, i64_w, i32_w]
            rfl
           refine pure_ (i := 8) (N := some 32) (v := ?_) (a' := ?_) #[true, true, true, true, true, true, true, true, true, false, false] rfl rfl (any_of HT_.out (by kernel_rfl)) (fun _ _ _ h => h) (Or.inl ⟨by rfl, ?_⟩) ?_ ?_
           rotate_left
           ·
            intro w'
            go_simp
            with_reducible rfl
           rotate_left
           ·
            simp only [Act.put, s1_, s2_, s3_, i64_w, i32_w]
            rfl
           refine pure_ (i := 9) (N := some 33) (v := ?_) (a' := ?_) #[true, true, true, true, true, true, true, true, true, true, false] rfl rfl (any_of HT_.out (by kernel_rfl)) (fun _ _ _ h => h) (Or.inl ⟨by rfl, ?_⟩) ?_ ?_
           rotate_left
           ·
            intro w'
            go_simp
            with_reducible rfl
           rotate_left
           ·
            simp only [Act.put, s1_, s2_, s3_, i64_w, i32_w]
            rfl
           refine last_ (i := 10) (N := none) #[true, true, true, true, true, true, true, true, true, true, true] rfl rfl (one_of HT_.out (by kernel_rfl)) (by decide) (fun K hK => ?_)
           refine skip_ (w1 := ?_) (by rfl) rfl ?_ ?_
           rotate_left
           ·
            go_simp
            rfl
           refine hK.out _ _ ?_
           clear hK K
           refine done_ (done_of HT_.out (by kernel_rfl)) ?_
           try go_wp2
           go_roundg k1
           case measure => have := HK1.out; omega
           case rel => exact ⟨(y109), (wrap64 (x16_1 + 1)), (by first | rfl | (simp; done) | (simp [*]; done)), H', ⟨by have := HK1.out; omega⟩, ⟨by (with_reducible repeat (first | apply r1_ | apply r2_ | apply r3_)); exact HQ31.out⟩, ⟨by repeat (first | (with_reducible first | exact HB.out | apply b1_ | apply b2_ | apply b3_ | refine b4_ ?_ GB17.out) | exact HB.out)⟩⟩
         ·
          rw [if_neg c15] at H
          exact absurd H (by simp)
        ·
         rw [if_neg c13] at H
         exact absurd H (by simp)
       ·
        rw [if_neg c12] at H
        exact absurd H (by simp)
      ·
       rw [if_neg c10] at H
       exact absurd H (by simp)
     ·
      rw [if_neg c9] at H
      exact absurd H (by simp)
    ·
     rw [if_neg c8] at H
     have c8b0 : decide (x16_1 < (l2.length : Int)) = false := d3_ c8
     clear c8
     obtain rfl := o1_ H
     go_wp2
     go_ret
     exact ⟨_, by first | rfl | (simp [e1_, e2_] <;> rfl) | (simp [*, e1_, e2_] <;> rfl), by (with_reducible repeat (first | apply r1_ | apply r2_ | apply r3_)); exact HO_7.out, by repeat (first | (with_reducible first | exact HB.out | apply b1_ | apply b2_ | apply b3_) | exact HB.out)⟩
 ·
  rw [if_neg c4] at H
  exact absurd H (by simp)

/-! ### impl_copied: function 17 -/
def impl_copied.f (l0 : List Int) : Option (List Int) := (some (([] : List Int) : List Int)).bind fun y118 => (if y118.length + l0.length < 140737488355328 then (some (y118 ++ l0)) else (none))
set_option maxHeartbeats 8000000 in
set_option maxRecDepth 100000 in
theorem impl_copied.calls (A0 : Option Addr) (c0 : Nat) (l0 : List Int) (r : List Int) (w : World) (hr0 : Kd.C (Kd.int .u8) w A0 l0.length l0) (hc0 : l0.length ≤ c0) (h : impl_copied.f l0 = some r) :
  Calls Tryd.prog 17 #[.slice A0 l0.length c0] w fun e w' => ∃ v0_ : Value, e = .returned (v0_) ∧ Kd.R (Kd.int .u8) 5 w' w.heap.size (fun _ => True) v0_ r ∧ Below w.heap.size w w' := by
 have HR0 := a0_ hr0
 have HC0 := a0_ hc0
 clear hr0 hc0
 have HB := a0_ (Below.refl w.heap.size w)
 have H : ((some (([] : List Int) : List Int)).bind fun y118 => (if y118.length + l0.length < 140737488355328 then (some (y118 ++ l0)) else (none))) = some r := h
 clear h
 obtain ⟨y118, hy118⟩ : ∃ y_ : List Int, y_ = (([] : List Int)) := ⟨_, rfl⟩
 replace H : (if y118.length + l0.length < 140737488355328 then (some (y118 ++ l0)) else (none)) = some r := by first | (rw [hy118]; with_reducible exact H) | (have H2_ := (o2_ _ _).symm.trans H; rw [hy118]; with_reducible exact H2_) | (have H2_ := (o2_ _ _).symm.trans H; with_reducible exact H2_) | with_reducible exact H | (rw [hy118]; exact H) | exact H
 have Ny118 := a0_ hy118
 clear hy118
 by_cases c2 : y118.length + l0.length < 140737488355328
 ·
  rw [if_pos c2] at H
  have LMc2 := a0_ c2
  clear c2
  obtain ⟨y121, hy121⟩ : ∃ y_ : List Int, y_ = (y118 ++ l0) := ⟨_, rfl⟩
  replace H : (some y121) = some r := by first | (rw [hy121]; with_reducible exact H) | (have H2_ := (o2_ _ _).symm.trans H; rw [hy121]; with_reducible exact H2_) | (have H2_ := (o2_ _ _).symm.trans H; with_reducible exact H2_) | with_reducible exact H | (rw [hy121]; exact H) | exact H
  have Ny121 := a0_ hy121
  clear hy121
  obtain rfl := o1_ H
  go_enter Tryd.func17, Tryd.ntmps17
  go_wp2_with (first | ((with_reducible refine gate_dst (N := 3) rfl ?_); refine Kd.R_lit (Kd.int .u8) _ 5 ?hg (N := 3) ?hd (xs := ([] : List Int)) (inner := []) (ok := fun _ => True) (okp := fun _ => True) ?hr ?hp (fun _ hk => hk) trivial (Below.refl _ _) (Nat.le_refl _) (by simp) ?_; (case hd => rfl); (case hg => rfl); (case hr => first | (go_simp; done) | (go_simp; rfl)); (case hp => exact (Reps.none _ _)); intro v119 w3 ho4 hb hg_ hnew_; clear hg_ hnew_; (first | rw [← Ny118.out] at ho4 | (simp only [Int.reduceToNat] at ho4; rw [← Ny118.out] at ho4)); have n0_ := a0_ (Kd.R_lower ho4 (below_size (by repeat (first | (with_reducible first | exact HB.out | apply b1_ | apply b2_ | apply b3_) | exact HB.out)))); have n1_ := a0_ (below_step (by repeat (first | (with_reducible first | exact HB.out | apply b1_ | apply b2_ | apply b3_) | exact HB.out)) hb); clear HB; have HO120 := n0_; have HB := n1_; clear n0_ n1_; clear hb ho4) | ((with_reducible refine gate_builtin (b := .append) (xs := #[.tmp 3, .tmp 4]) rfl ?_); at_builtin; refine Kd.R_append_rows (Kd.int .u8) (w0 := w) w.heap.size rfl (.tmp 3) (.tmp 4) 22 5 (.int .u8 0) 1 rfl Tryd.underlying22 info5 rfl (by decide) (by omega) v119 y118 l0 _ _ _ (fun _ => True) (fun _ => False) rfl rfl ?aO ?aR (fun _ _ h => h) (fun _ h => h.elim) ?aF ?aB ?aS ?aL ?_; (case aR => repeat (first | exact (Kd.C_below HR0.out HB.out) | (with_reducible refine Kd.C_alloc ?_ _) | (with_reducible refine Kd.C_drewN ?_ _) | (with_reducible refine Kd.C_drew ?_))); (case aB => exact (by repeat (first | (with_reducible first | exact HB.out | apply b1_ | apply b2_ | apply b3_) | exact HB.out))); (case aF => exact (fun _ _ => trivial)); (case aO => exact (by (with_reducible repeat (first | apply r1_ | apply r2_ | apply r3_)); exact HO120.out)); (case aS => exact (below_size (by repeat (first | (with_reducible first | exact HB.out | apply b1_ | apply b2_ | apply b3_) | exact HB.out)))); (case aL => have := LMc2.out; omega); intro v122 w5 ho hb hg hat; rw [← Ny121.out] at ho; have n0_ := a0_ (hb); have n1_ := a0_ (ho); clear HB; clear HO120; have HB := n0_; have HO123 := n1_; clear n0_ n1_; clear ho hb hg hat))
  go_ret
  exact ⟨_, by first | rfl | (simp [e1_, e2_] <;> rfl) | (simp [*, e1_, e2_] <;> rfl), by (with_reducible repeat (first | apply r1_ | apply r2_ | apply r3_)); exact HO123.out, by repeat (first | (with_reducible first | exact HB.out | apply b1_ | apply b2_ | apply b3_) | exact HB.out)⟩
 ·
  rw [if_neg c2] at H
  exact absurd H (by simp)


end Go.Proofs.YthgbfmcicpmepaaDoor.V
