import Derived.Test.YtiiicmfobljnaaaV2
namespace Go.Proofs.Ytiiicmfobljnaaa.V
open Go.RowKit Go.Proofs.YtiiicmfobljnaaaW.PrintWords Go.Proofs.YtiiicmfobljnaaaW.PrintLast Go.Proofs.YtiiicmfobljnaaaW.PrintMore
attribute [local go_sem] max2_int min2_int max_two min_two max_three min_three max_four min_four
set_option linter.unusedVariables false
set_option linter.unusedSimpArgs false

/-! ### spec_ToWords: function 31 -/
mutual
def spec_ToWords.j0 : Nat → Int → Bool → Bool → List Int → Option (List Int × Bool)
 | 0, _, _, _, _ => none
 | k + 1, x1, x7, x285000, x285001 => if x285000 = true then ((spec_Two.f k (wrap64 (64 * x1))).bind fun bt296 => ((spec_WideDiv.f k x285000 x285001 bt296.1 bt296.2).bind fun bt300 => ((spec_Two.f k (wrap64 (64 * x1))).bind fun bt310 => ((spec_WideAdd.f k bt300.2.2.1 bt300.2.2.2 bt310.1 bt310.2).bind fun bt314 => (spec_ToWords.j1 k x1 x7 bt314.1 bt314.2))))) else (spec_ToWords.j1 k x1 x7 x285000 x285001)
def spec_ToWords.j1 : Nat → Int → Bool → Bool → List Int → Option (List Int × Bool)
 | 0, _, _, _, _ => none
 | k + 1, x1, x7, x285000, x285001 => if 0 ≤ x1 then (if (x1 : Int).toNat ≤ 35184372088832 then ((some (List.replicate (x1 : Int).toNat 0 : List Int)).bind fun y318 => (spec_ToWords.l0 k x7 y318 (y318.length : Int) 0 x285000 x285001)) else (none)) else (none)
def spec_ToWords.l0 : Nat → Bool → List Int → Int → Int → Bool → List Int → Option (List Int × Bool)
 | 0, _, _, _, _, _, _ => none
 | k + 1, x7, x10, x46, x47, x285000, x285001 => if x47 < x46 then (spec_ToWords.l1 k x7 x10 x47 0 x46 x47 x285000 x285001) else (some (x10, x7))
def spec_ToWords.l1 : Nat → Bool → List Int → Int → Int → Int → Int → Bool → List Int → Option (List Int × Bool)
 | 0, _, _, _, _, _, _, _, _ => none
 | k + 1, x7, x10, x11, x12, x46, x47, x285000, x285001 => if x12 < 2 then (if (wrap64 ((wrap64 (2 * x11)) + x12)) < (x285001.length : Int) then (if 0 ≤ x11 then (if x11 < (x10.length : Int) then (if 0 ≤ (wrap64 ((wrap64 (2 * x11)) + x12)) then (if 0 ≤ (wrap64 (32 * x12)) then (spec_ToWords.l1 k x7 (x10.set (x11 : Int).toNat (Go.bits .or .u64 (rd x10 x11) (shl .u64 (IntKind.u64.wrap (rd x285001 (wrap64 ((wrap64 (2 * x11)) + x12)))) (wrap64 (32 * x12))))) x11 (wrap64 (x12 + 1)) x46 x47 x285000 x285001) else (none)) else (none)) else (none)) else (none)) else (spec_ToWords.l1 k x7 x10 x11 (wrap64 (x12 + 1)) x46 x47 x285000 x285001)) else (spec_ToWords.l0 k x7 x10 x46 (wrap64 (x47 + 1)) x285000 x285001)
end
def spec_ToWords.f (k : Nat) (a0_0 : Bool) (l0_1 : List Int) (a1 : Int) : Option (List Int × Bool) := (spec_Two.f k (wrap64 ((wrap64 (64 * a1)) - 1))).bind fun bt285 => ((spec_WideCmp.f k a0_0 l0_1 bt285.1 bt285.2).bind fun t290 => (if t290 < 0 then ((spec_Wide_Negated.f k bt285.1 bt285.2).bind fun bt291 => ((spec_WideCmp.f k a0_0 l0_1 bt291.1 bt291.2).bind fun t295 => (spec_ToWords.j0 k a1 (decide (t295 ≥ 0)) a0_0 l0_1))) else (spec_ToWords.j0 k a1 false a0_0 l0_1)))
def spec_ToWords.T2 : Bool × List (List Nat × List Nat) := (true, [([], []), ([], []), ([0, 1], [0, 1]), ([2], [2]), ([3, 2], [3]), ([4], [4]), ([4], [4]), ([6, 4, 4], [4, 6]), ([5, 7, 7, 4], [4, 5, 7]), ([8, 4], [4, 8]), ([4, 9], [4, 9]), ([10, 8, 0, 1, 2, 3, 4, 5, 6, 7, 8, 9, 10], [10])])
def spec_ToWords.B2 : List Nat := [0, 0, 3, 7, 15, 31, 31, 95, 255, 511, 1023, 2047]
theorem spec_ToWords.tab2 : rtab .any (opsOf Try.f31 2) = spec_ToWords.T2 := by kernel_rfl
theorem spec_ToWords.bits2 : waitsOk spec_ToWords.T2.2 spec_ToWords.B2 = true := by kernel_rfl
def spec_ToWords.T4 : Bool × List (List Nat × List Nat) := (true, [([], []), ([], []), ([1], [1]), ([2], [2]), ([0, 3, 3], [0, 3]), ([4], [4]), ([5], [5]), ([5], [5]), ([], []), ([], []), ([8, 6, 4, 0, 1, 2, 3, 4, 5, 6, 8, 9], [6, 8]), ([9, 7, 10, 0, 1, 2, 3, 4, 5, 6, 7, 8, 9, 10], [7, 9])])
def spec_ToWords.B4 : List Nat := [0, 0, 2, 6, 15, 31, 63, 63, 0, 0, 895, 2047]
theorem spec_ToWords.tab4 : rtab .any (opsOf Try.f31 4) = spec_ToWords.T4 := by kernel_rfl
theorem spec_ToWords.bits4 : waitsOk spec_ToWords.T4.2 spec_ToWords.B4 = true := by kernel_rfl
def spec_ToWords.T14 : Bool × List (List Nat × List Nat) := (true, [([], []), ([], []), ([0, 1], [0, 1]), ([2], [2]), ([], []), ([4], [4]), ([], []), ([6], [6]), ([], []), ([7, 8], [7, 8]), ([5, 9], [5, 9]), ([10], [10]), ([11], [11]), ([], []), ([13], [13]), ([12, 14], [12, 14]), ([3, 15], [3, 15]), ([0, 1, 0, 1, 2, 3, 4, 5, 6, 7, 8, 9, 10, 11, 12, 13, 14, 15, 16], [0, 1]), ([17, 16, 0, 1, 2, 3, 4, 5, 6, 7, 8, 9, 10, 11, 12, 13, 14, 15, 16], [16, 17])])
def spec_ToWords.B14 : List Nat := [0, 0, 3, 7, 0, 16, 0, 64, 0, 448, 1008, 2032, 4080, 0, 8192, 32752, 65535, 131071, 262143]
theorem spec_ToWords.tab14 : rtab .any (opsOf Try.f31 14) = spec_ToWords.T14 := by kernel_rfl
theorem spec_ToWords.bits14 : waitsOk spec_ToWords.T14.2 spec_ToWords.B14 = true := by kernel_rfl
set_option maxHeartbeats 8000000 in
set_option maxRecDepth 100000 in
theorem spec_ToWords.calls (k : Nat) (a0_0 : Bool) (P0_1_ : Nat → Prop) (A0_1 : Option Addr) (c0_1 : Nat) (l0_1 : List Int) (a1 : Int) (r1 : List Int) (r2 : Bool) (w : World) (hs0_1 : Kd.V (Kd.int .u32) 96 w w.heap.size (fun k_ => P0_1_ k_) (.slice A0_1 l0_1.length c0_1) l0_1) (h : spec_ToWords.f k a0_0 l0_1 a1 = some (r1, r2)) :
  Calls Try.prog 31 #[.agg #[.bool a0_0, .slice A0_1 l0_1.length c0_1], .int .i64 a1] w fun e w' => ∃ v0_ : Value, e = .returned (.tuple #[v0_, .bool r2]) ∧ Kd.R (Kd.int .u64) 25 w' w.heap.size (fun k_ => (w.heap.size ≤ k_)) v0_ r1 ∧ Below w.heap.size w w' := by
 have hu29 := Try.underlying29
 have HO0_1 := a0_ (show Kd.V (Kd.int .u32) 96 w w.heap.size (fun k_ => (P0_1_ k_ ∨ w.heap.size ≤ k_)) (.slice A0_1 l0_1.length c0_1) l0_1 from v4_ hs0_1 (fun k_ hk => .inl hk))
 have HB := a0_ (Below.refl w.heap.size w)
 have H : ((spec_Two.f k (wrap64 ((wrap64 (64 * a1)) - 1))).bind fun bt285 => ((spec_WideCmp.f k a0_0 l0_1 bt285.1 bt285.2).bind fun t290 => (if t290 < 0 then ((spec_Wide_Negated.f k bt285.1 bt285.2).bind fun bt291 => ((spec_WideCmp.f k a0_0 l0_1 bt291.1 bt291.2).bind fun t295 => (spec_ToWords.j0 k a1 (decide (t295 ≥ 0)) a0_0 l0_1))) else (spec_ToWords.j0 k a1 false a0_0 l0_1)))) = some (r1, r2) := h
 clear h
 replace H := Option.bind_eq_some_iff.mp H
 obtain ⟨⟨t285, t286⟩, A30, H⟩ := H
 replace H : ((spec_WideCmp.f k a0_0 l0_1 t285 t286).bind fun t290 => (if t290 < 0 then ((spec_Wide_Negated.f k t285 t286).bind fun bt291 => ((spec_WideCmp.f k a0_0 l0_1 bt291.1 bt291.2).bind fun t295 => (spec_ToWords.j0 k a1 (decide (t295 ≥ 0)) a0_0 l0_1))) else (spec_ToWords.j0 k a1 false a0_0 l0_1))) = some (r1, r2) := H
 have A3 := a0_ A30
 clear A30
 have HC4 := a0_ H
 clear H
 go_enter Try.func31, Try.ntmps31
 go_upto_region 2 with (first | ((with_reducible refine gate_dst (N := 2) rfl ?_); refine box_event ?hg (N := 2) ?hd (cs := #[.bool a0_0, .slice A0_1 l0_1.length c0_1]) (t := 29) ?hr ?_; (case hd => rfl); (case hg => rfl); (case hr => first | (go_simp; done) | (go_simp; rfl)); intro gb284 hg w5 hbox hb; have n0_ := a0_ (Kd.V_below (Kd.V_elderB (by (with_reducible repeat (first | apply v1_ | apply v2_ | apply v3_)); exact HO0_1.out) gb284 (Nat.le_of_eq hg.symm)) hb); have n1_ := a0_ (below_step (by repeat (first | (with_reducible first | exact HB.out | apply b1_ | apply b2_ | apply b3_) | exact HB.out)) hb); have n2_ := a0_ (hbox); have n3_ := a0_ ((by rw [hg]; exact (below_size (by repeat (first | (with_reducible first | exact HB.out | apply b1_ | apply b2_ | apply b3_) | exact HB.out))) : w.heap.size ≤ gb284)); have n4_ := a0_ ((by rw [hg]; exact (below_size (by repeat (first | (with_reducible first | exact HB.out | apply b1_ | apply b2_ | apply b3_) | exact HB.out))) : w.heap.size ≤ gb284)); clear HO0_1; clear HB; have HO0_1 := n0_; have HB := n1_; have BK284 := n2_; have GW284 := n3_; have GE284 := n4_; clear n0_ n1_ n2_ n3_ n4_; clear hb hbox hg) | ((with_reducible refine gate_callee (f := 72) rfl ?_); refine goesL_ (some 16) rfl rfl Try.func72 (by kernel_rfl) rfl #[.int .i64 (wrap64 ((wrap64 (64 * a1)) - 1))] rfl (by (try simp only [List.map_toArray, List.map_cons, List.map_nil]); first | done | rfl | (simp only [List.length_drop, List.length_take]; rfl)) ?_; (with_reducible refine (spec_Two.calls k (wrap64 ((wrap64 (64 * a1)) - 1)) t285 t286 _ A3.out).mono ?_); rintro e w6 ⟨v287, rfl, ho0, hb⟩; refine ⟨_, rfl, ?_⟩; have n0_ := a0_ (Kd.V_below (by (with_reducible repeat (first | apply v1_ | apply v2_ | apply v3_)); exact HO0_1.out) hb); have n1_ := a0_ (Kd.V_lower (v4_ (ok' := fun k_ => (P0_1_ k_ ∨ w.heap.size ≤ k_) ∧ k_ ≠ gb284) ho0 (fun k_ hk_ => ⟨(.inr (Nat.le_trans (below_size (by repeat (first | (with_reducible first | exact HB.out | apply b1_ | apply b2_ | apply b3_ | refine b4_ ?_ GE284.out) | exact HB.out))) hk_)), (Kd.freshB (g := gb284) (o := .cells #[.bool a0_0, .slice A0_1 l0_1.length c0_1] 29 (0, 0)) (by (with_reducible repeat (first | refine k1_ ?_ _ | refine k2_ ?_ | refine k3_ ?_ _)); exact BK284.out) k_ hk_)⟩)) (below_size (by repeat (first | (with_reducible first | exact HB.out | apply b1_ | apply b2_ | apply b3_ | refine b4_ ?_ GE284.out) | exact HB.out)))); have n2_ := a0_ (blk_below (g := gb284) (o := .cells #[.bool a0_0, .slice A0_1 l0_1.length c0_1] 29 (0, 0)) (by (with_reducible repeat (first | refine k1_ ?_ _ | refine k2_ ?_ | refine k3_ ?_ _)); exact BK284.out) hb); have n3_ := a0_ (below_step (by repeat (first | (with_reducible first | exact HB.out | apply b1_ | apply b2_ | apply b3_ | refine b4_ ?_ GE284.out) | exact HB.out)) hb); clear HO0_1; clear BK284; clear HB; have HO0_1 := n0_; have HO288 := n1_; have BK284 := n2_; have HB := n3_; clear n0_ n1_ n2_ n3_; (try clear hb); (try clear hb2); (try clear hk); (try clear hi); (try clear ho0)) | ((with_reducible refine gate_dst (N := 6) rfl ?_); refine box_event ?hg (N := 6) ?hd (cs := #[.bool false, .slice none 0 0]) (t := 29) ?hr ?_; (case hd => rfl); (case hg => rfl); (case hr => first | (go_simp; done) | (go_simp; rfl)); intro gb289 hg w7 hbox hb; have n0_ := a0_ (Kd.V_below (Kd.V_elderB (by (with_reducible repeat (first | apply v1_ | apply v2_ | apply v3_)); exact HO0_1.out) gb289 (Nat.le_of_eq hg.symm)) hb); have n1_ := a0_ (Kd.V_below (Kd.V_elderB (by (with_reducible repeat (first | apply v1_ | apply v2_ | apply v3_)); exact HO288.out) gb289 (Nat.le_of_eq hg.symm)) hb); have n2_ := a0_ (blk_below (g := gb284) (o := .cells #[.bool a0_0, .slice A0_1 l0_1.length c0_1] 29 (0, 0)) (by (with_reducible repeat (first | refine k1_ ?_ _ | refine k2_ ?_ | refine k3_ ?_ _)); exact BK284.out) hb); have n3_ := a0_ (below_step (by repeat (first | (with_reducible first | exact HB.out | apply b1_ | apply b2_ | apply b3_ | refine b4_ ?_ GE284.out) | exact HB.out)) hb); have n4_ := a0_ (hbox); have n5_ := a0_ ((by rw [hg]; exact (below_size (by repeat (first | (with_reducible first | exact HB.out | apply b1_ | apply b2_ | apply b3_ | refine b4_ ?_ GE284.out) | exact HB.out))) : w.heap.size ≤ gb289)); have n6_ := a0_ ((by rw [hg]; exact (below_size (by repeat (first | (with_reducible first | exact HB.out | apply b1_ | apply b2_ | apply b3_ | refine b4_ ?_ GE284.out) | exact HB.out))) : w.heap.size ≤ gb289)); have n7_ := a0_ ((by rw [hg]; exact Nat.ne_of_lt (blk_lt (g := gb284) (o := .cells #[.bool a0_0, .slice A0_1 l0_1.length c0_1] 29 (0, 0)) (by (with_reducible repeat (first | refine k1_ ?_ _ | refine k2_ ?_ | refine k3_ ?_ _)); exact BK284.out)) : gb284 ≠ gb289)); have n8_ := a0_ ((by rw [hg]; exact Nat.ne_of_gt (blk_lt (g := gb284) (o := .cells #[.bool a0_0, .slice A0_1 l0_1.length c0_1] 29 (0, 0)) (by (with_reducible repeat (first | refine k1_ ?_ _ | refine k2_ ?_ | refine k3_ ?_ _)); exact BK284.out)) : gb289 ≠ gb284)); clear HO0_1; clear HO288; clear BK284; clear HB; have HO0_1 := n0_; have HO288 := n1_; have BK284 := n2_; have HB := n3_; have BK289 := n4_; have GW289 := n5_; have GE289 := n6_; have NB284_289 := n7_; have NB289_284 := n8_; clear n0_ n1_ n2_ n3_ n4_ n5_ n6_ n7_ n8_; clear hb hbox hg; have hnb8 := NB289_284.out; have hnc8 := NB284_289.out; have hcz9_0 : w7.cell? ⟨gb289, 0, none⟩ = some (.bool false) := (blk_cell BK289.out 0).trans rfl; have hcz9_1 : w7.cell? ⟨gb289, 1, none⟩ = some (.slice none 0 0) := (blk_cell BK289.out 1).trans rfl; have hfz9_0 := blk_frozen BK289.out 0; have hfz9_1 := blk_frozen BK289.out 1; obtain ⟨Ao10, co10, eo10⟩ := Kd.V_slice HO288.out; subst eo10))
 (try simp only [Act.put, s1_, s2_, s3_])
 go_cut [7] (fun v7 wc => ∃ (kq : Nat) (x7_3 : Bool), v7 = .bool x7_3 ∧ Aside0 (spec_ToWords.j0 kq a1 x7_3 a0_0 l0_1 = some (r1, r2)) ∧ Aside0 (kq ≤ k) ∧ Aside0 (Kd.V (Kd.int .u32) 96 wc w.heap.size (fun k_ => (P0_1_ k_ ∨ w.heap.size ≤ k_) ∧ k_ ≠ gb284 ∧ k_ ≠ gb289) (.slice A0_1 l0_1.length c0_1) l0_1) ∧ Aside0 (Kd.V (Kd.int .u32) 96 wc w.heap.size (fun k_ => (P0_1_ k_ ∨ w.heap.size ≤ k_) ∧ k_ ≠ gb284 ∧ k_ ≠ gb289) (.slice Ao10 t286.length co10) t286) ∧ Aside0 (wc.heap[gb284]? = some (.cells #[.bool a0_0, (.slice A0_1 l0_1.length c0_1)] 29 (0, 0))) ∧ Aside0 (wc.heap[gb289]? = some (.cells #[.bool t285, (.slice Ao10 t286.length co10)] 29 (0, 0))) ∧ Aside0 (Below w.heap.size w wc))
 case first =>
  have H := HC4.out
  clear HC4
  replace H := Option.bind_eq_some_iff.mp H
  obtain ⟨t290, A110, H⟩ := H
  replace H : (if t290 < 0 then ((spec_Wide_Negated.f k t285 t286).bind fun bt291 => ((spec_WideCmp.f k a0_0 l0_1 bt291.1 bt291.2).bind fun t295 => (spec_ToWords.j0 k a1 (decide (t295 ≥ 0)) a0_0 l0_1))) else (spec_ToWords.j0 k a1 false a0_0 l0_1)) = some (r1, r2) := H
  have A11 := a0_ A110
  clear A110
  by_cases c12 : t290 < 0
  ·
   rw [if_pos c12] at H
   have c12b0 : decide (t290 < 0) = true := d2_ c12
   clear c12
   (first | rw [c12b0] | (simp only [i64_w, i32_w]; rw [c12b0]) | skip)
   replace H := Option.bind_eq_some_iff.mp H
   obtain ⟨⟨t291, t292⟩, A130, H⟩ := H
   replace H : ((spec_WideCmp.f k a0_0 l0_1 t291 t292).bind fun t295 => (spec_ToWords.j0 k a1 (decide (t295 ≥ 0)) a0_0 l0_1)) = some (r1, r2) := H
   have A13 := a0_ A130
   clear A130
   replace H := Option.bind_eq_some_iff.mp H
   obtain ⟨t295, A140, H⟩ := H
   replace H : (spec_ToWords.j0 k a1 (decide (t295 ≥ 0)) a0_0 l0_1) = some (r1, r2) := H
   have A14 := a0_ A140
   clear A140
   have H' := a0_ H
   clear H
   try go_wp2
   have n0_ : Aside0 (Kd.V (Kd.int .u32) 96 ((w7.setCell ⟨gb289, 0, none⟩ (.bool t285)).setCell ⟨gb289, 1, none⟩ (.slice Ao10 t286.length co10)) w.heap.size (fun k_ => (P0_1_ k_ ∨ w.heap.size ≤ k_) ∧ k_ ≠ gb284 ∧ k_ ≠ gb289) (.slice A0_1 l0_1.length c0_1) l0_1) := ⟨by (with_reducible repeat (first | apply v1_ | apply v2_ | apply v3_)); exact v4_ (v5_ (p := ⟨gb289, 1, none⟩) (v5_ (p := ⟨gb289, 0, none⟩) (v4_ HO0_1.out (fun k_ hk => (⟨hk, hk.2⟩ : _ ∧ k_ ≠ gb289))) (fun _ hk => hk.2) (.bool t285)) (fun _ hk => hk.2) (.slice Ao10 t286.length co10)) (fun _ hk => ⟨hk.1.1.1, ⟨hk.1.1.2, hk.1.2⟩⟩)⟩
   have n1_ : Aside0 (Kd.V (Kd.int .u32) 96 ((w7.setCell ⟨gb289, 0, none⟩ (.bool t285)).setCell ⟨gb289, 1, none⟩ (.slice Ao10 t286.length co10)) w.heap.size (fun k_ => (P0_1_ k_ ∨ w.heap.size ≤ k_) ∧ k_ ≠ gb284 ∧ k_ ≠ gb289) (.slice Ao10 t286.length co10) t286) := ⟨by (with_reducible repeat (first | apply v1_ | apply v2_ | apply v3_)); exact v4_ (v5_ (p := ⟨gb289, 1, none⟩) (v5_ (p := ⟨gb289, 0, none⟩) (v4_ HO288.out (fun k_ hk => (⟨hk, hk.2⟩ : _ ∧ k_ ≠ gb289))) (fun _ hk => hk.2) (.bool t285)) (fun _ hk => hk.2) (.slice Ao10 t286.length co10)) (fun _ hk => ⟨hk.1.1.1, ⟨hk.1.1.2, hk.1.2⟩⟩)⟩
   have n2_ : Aside0 (((w7.setCell ⟨gb289, 0, none⟩ (.bool t285)).setCell ⟨gb289, 1, none⟩ (.slice Ao10 t286.length co10)).heap[gb284]? = some (.cells #[.bool a0_0, .slice A0_1 l0_1.length c0_1] 29 (0, 0))) := ⟨by (with_reducible repeat (first | refine k1_ ?_ _ | refine k2_ ?_ | refine k3_ ?_ _)); refine blk_far ?_ NB284_289.out _; (with_reducible repeat (first | refine k1_ ?_ _ | refine k2_ ?_ | refine k3_ ?_ _)); refine blk_far ?_ NB284_289.out _; (with_reducible repeat (first | refine k1_ ?_ _ | refine k2_ ?_ | refine k3_ ?_ _)); exact BK284.out⟩
   have n3_ : Aside0 (((w7.setCell ⟨gb289, 0, none⟩ (.bool t285)).setCell ⟨gb289, 1, none⟩ (.slice Ao10 t286.length co10)).heap[gb289]? = some (.cells #[.bool t285, .slice Ao10 t286.length co10] 29 (0, 0))) := ⟨by (with_reducible repeat (first | refine k1_ ?_ _ | refine k2_ ?_ | refine k3_ ?_ _)); refine blk_put (cs := #[.bool t285, .slice none 0 0]) ?_ 1 _ rfl; (with_reducible repeat (first | refine k1_ ?_ _ | refine k2_ ?_ | refine k3_ ?_ _)); refine blk_put (cs := #[.bool false, .slice none 0 0]) ?_ 0 _ rfl; (with_reducible repeat (first | refine k1_ ?_ _ | refine k2_ ?_ | refine k3_ ?_ _)); exact BK289.out⟩
   have n4_ : Aside0 (Below w.heap.size w ((w7.setCell ⟨gb289, 0, none⟩ (.bool t285)).setCell ⟨gb289, 1, none⟩ (.slice Ao10 t286.length co10))) := ⟨by repeat (first | (with_reducible first | exact HB.out | apply b1_ | apply b2_ | apply b3_ | refine b4_ ?_ GE284.out | refine b4_ ?_ GE289.out) | exact HB.out)⟩
   (try clear HO0_1)
   (try clear HO288)
   (try clear BK284)
   (try clear BK289)
   (try clear HB)
   generalize ((w7.setCell ⟨gb289, 0, none⟩ (.bool t285)).setCell ⟨gb289, 1, none⟩ (.slice Ao10 t286.length co10)) = w15 at n0_ n1_ n2_ n3_ n4_ ⊢
   have HO0_1 := n0_
   have HO288 := n1_
   have BK284 := n2_
   have BK289 := n3_
   have HB := n4_
   clear n0_ n1_ n2_ n3_ n4_
   have n0_ := a0_ (v3_ HO0_1.out)
   have n1_ := a0_ (v3_ HO288.out)
   have n2_ := a0_ (k2_ BK284.out)
   have n3_ := a0_ (k2_ BK289.out)
   have n4_ := a0_ (b3_ HB.out)
   clear HO0_1
   clear HO288
   clear BK284
   clear BK289
   clear HB
   have HO0_1 := n0_
   have HO288 := n1_
   have BK284 := n2_
   have BK289 := n3_
   have HB := n4_
   clear n0_ n1_ n2_ n3_ n4_
   refine start_ (n := 12) (S := fun w' => w'.cell? ⟨gb284, 0, none⟩ = some (.bool a0_0) ∧ w'.cell? ⟨gb284, 1, none⟩ = some (.slice A0_1 l0_1.length c0_1) ∧ w'.cell? ⟨gb289, 0, none⟩ = some (.bool t285) ∧ w'.cell? ⟨gb289, 1, none⟩ = some (.slice Ao10 t286.length co10)) (ds := []) #[false, false, false, false, false, false, false, false, false, false, false, false] (by kernel_rfl) rfl rfl ⟨(blk_cell BK284.out 0).trans rfl, (blk_cell BK284.out 1).trans rfl, (blk_cell BK289.out 0).trans rfl, (blk_cell BK289.out 1).trans rfl⟩ (fun hHeld => ?_); refine with_tabW spec_ToWords.tab2 spec_ToWords.bits2 (fun HT_ HW_ => ?_)
   generalize w15.drew = w16 at HO0_1 HO288 BK284 BK289 HB hHeld ⊢
   refine take_ (i := 0) (N := some 17) (v := ?_) (a' := ?_) #[true, false, false, false, false, false, false, false, false, false, false, false] rfl rfl (take_ofW HT_.out HW_.out (by kernel_rfl)) (fun _ _ _ h => h) (Or.inl ⟨by rfl, ?_⟩) hHeld ?_ ?_
   rotate_left
   ·
    rintro w' ⟨s0, s1, s2, s3⟩
    go_simp
    with_reducible rfl
   rotate_left
   ·
    simp only [Act.put, s1_, s2_, s3_, i64_w, i32_w]
    rfl
   refine take_ (i := 1) (N := some 18) (v := ?_) (a' := ?_) #[true, true, false, false, false, false, false, false, false, false, false, false] rfl rfl (take_ofW HT_.out HW_.out (by kernel_rfl)) (fun _ _ _ h => h) (Or.inl ⟨by rfl, ?_⟩) hHeld ?_ ?_
   rotate_left
   ·
    rintro w' ⟨s0, s1, s2, s3⟩
    go_simp
    with_reducible rfl
   rotate_left
   ·
    simp only [Act.put, s1_, s2_, s3_, i64_w, i32_w]
    rfl
   refine one_ (i := 2) (N := some 19) #[true, true, true, false, false, false, false, false, false, false, false, false] rfl rfl (one_of HT_.out (by kernel_rfl)) (by decide) (fun K hK => ?_)
   refine goes_ Try.func21 (by kernel_rfl) rfl #[.agg #[.bool a0_0, .slice A0_1 l0_1.length c0_1], .agg #[.bool t285, .slice Ao10 t286.length co10]] (by rfl) rfl rfl (by (try simp only [List.map_toArray, List.map_cons, List.map_nil]); first | done | rfl | (simp only [List.length_drop, List.length_take]; rfl)) ?_
   with_reducible refine (spec_WideCmp.calls k a0_0 _ _ l0_1 t285 _ _ t286 t290 _ ?side1 ?side2 ?side3 ?side4 A11.out).mono ?_
   (case side1 => repeat (first | exact (Kd.V_reads' HO0_1.out).2.2 | (with_reducible refine Kd.C_alloc ?_ _) | (with_reducible refine Kd.C_drewN ?_ _) | (with_reducible refine Kd.C_drew ?_)))
   (case side2 => exact (Kd.V_reads' HO0_1.out).2.1)
   (case side3 => repeat (first | exact (Kd.V_reads' HO288.out).2.2 | (with_reducible refine Kd.C_alloc ?_ _) | (with_reducible refine Kd.C_drewN ?_ _) | (with_reducible refine Kd.C_drew ?_)))
   (case side4 => exact (Kd.V_reads' HO288.out).2.1)
   rintro e w17 ⟨rfl, hb⟩
   refine ⟨_, rfl, ?_⟩
   have n0_ := a0_ (Kd.V_below (by (with_reducible repeat (first | apply v1_ | apply v2_ | apply v3_)); exact HO0_1.out) hb)
   have n1_ := a0_ (Kd.V_below (by (with_reducible repeat (first | apply v1_ | apply v2_ | apply v3_)); exact HO288.out) hb)
   have n2_ := a0_ (blk_below (g := gb284) (o := .cells #[.bool a0_0, .slice A0_1 l0_1.length c0_1] 29 (0, 0)) (by (with_reducible repeat (first | refine k1_ ?_ _ | refine k2_ ?_ | refine k3_ ?_ _)); exact BK284.out) hb)
   have n3_ := a0_ (blk_below (g := gb289) (o := .cells #[.bool t285, .slice Ao10 t286.length co10] 29 (0, 0)) (by (with_reducible repeat (first | refine k1_ ?_ _ | refine k2_ ?_ | refine k3_ ?_ _)); exact BK289.out) hb)
   have n4_ := a0_ (below_step (by repeat (first | (with_reducible first | exact HB.out | apply b1_ | apply b2_ | apply b3_ | refine b4_ ?_ GE284.out | refine b4_ ?_ GE289.out) | exact HB.out)) hb)
   clear HO0_1
   clear HO288
   clear BK284
   clear BK289
   clear HB
   have HO0_1 := n0_
   have HO288 := n1_
   have BK284 := n2_
   have BK289 := n3_
   have HB := n4_
   clear n0_ n1_ n2_ n3_ n4_
   (try clear hb)
   (try clear hb2)
   (try clear hk)
   (try clear hi)
   refine hK.out _ _ ⟨(blk_cell BK284.out 0).trans rfl, (blk_cell BK284.out 1).trans rfl, (blk_cell BK289.out 0).trans rfl, (blk_cell BK289.out 1).trans rfl⟩ (fun hHeld => ?_)
   clear hK K
   refine norm_ (a' := ?_) ?_ ?_
   rotate_left
   ·
    show Act.put _ (some 19) _ = _
    simp only [Act.put, s1_, s2_, s3_, i64_w, i32_w]
    rfl
   refine pure_ (i := 3) (N := some 20) (v := ?_) (a' := ?_) #[true, true, true, true, false, false, false, false, false, false, false, false] rfl rfl (any_of HT_.out (by kernel_rfl)) (fun _ _ _ h => h) (Or.inl ⟨by rfl, ?_⟩) ?_ ?_
   rotate_left
   ·
    intro w'
    go_simp
    with_reducible rfl
   rotate_left
   ·
    simp only [Act.put, s1_, s2_, s3_, i64_w, i32_w]
    rfl
   refine pure_ (i := 4) (N := some 21) (v := ?_) (a' := ?_) #[true, true, true, true, true, false, false, false, false, false, false, false] rfl rfl (any_of HT_.out (by kernel_rfl)) (fun _ _ _ h => h) (Or.inl ⟨by rfl, ?_⟩) ?_ ?_
   rotate_left
   ·
    intro w'
    go_simp
    with_reducible rfl
   rotate_left
   ·
    simp only [Act.put, s1_, s2_, s3_, i64_w, i32_w]
    rfl
   refine take_ (i := 5) (N := some 22) (v := ?_) (a' := ?_) #[true, true, true, true, true, true, false, false, false, false, false, false] rfl rfl (take_ofW HT_.out HW_.out (by kernel_rfl)) (fun _ _ _ h => h) (Or.inl ⟨by rfl, ?_⟩) hHeld ?_ ?_
   rotate_left
   ·
    rintro w' ⟨s0, s1, s2, s3⟩
    go_simp
    with_reducible rfl
   rotate_left
   ·
    simp only [Act.put, s1_, s2_, s3_, i64_w, i32_w]
    rfl
   refine take_ (i := 6) (N := some 23) (v := ?_) (a' := ?_) #[true, true, true, true, true, true, true, false, false, false, false, false] rfl rfl (take_ofW HT_.out HW_.out (by kernel_rfl)) (fun _ _ _ h => h) (Or.inl ⟨by rfl, ?_⟩) hHeld ?_ ?_
   rotate_left
   ·
    rintro w' ⟨s0, s1, s2, s3⟩
    go_simp
    with_reducible rfl
   rotate_left
   ·
    simp only [Act.put, s1_, s2_, s3_, i64_w, i32_w]
    rfl
   refine one_ (i := 7) (N := some 24) #[true, true, true, true, true, true, true, true, false, false, false, false] rfl rfl (one_of HT_.out (by kernel_rfl)) (by decide) (fun K hK => ?_)
   refine goes_ Try.func16 (by kernel_rfl) rfl #[.agg #[.bool t285, .slice Ao10 t286.length co10]] (by rfl) rfl rfl (by (try simp only [List.map_toArray, List.map_cons, List.map_nil]); first | done | rfl | (simp only [List.length_drop, List.length_take]; rfl)) ?_
   with_reducible refine (spec_Wide_Negated.calls k t285 (fun k_ => ((P0_1_ k_ ∨ w.heap.size ≤ k_) ∧ (k_ ≠ gb284 ∧ k_ ≠ gb289))) _ _ t286 t291 t292 _ ?side1 A13.out).mono ?_
   (case side1 => exact HO288.out)
   rintro e w18 ⟨v293, rfl, ho0, hb⟩
   refine ⟨_, rfl, ?_⟩
   have n0_ := a0_ (Kd.V_below (by (with_reducible repeat (first | apply v1_ | apply v2_ | apply v3_)); exact HO0_1.out) hb)
   have n1_ := a0_ (Kd.V_below (by (with_reducible repeat (first | apply v1_ | apply v2_ | apply v3_)); exact HO288.out) hb)
   have n2_ := a0_ (Kd.V_lower (v4_ (ok' := fun k_ => (P0_1_ k_ ∨ w.heap.size ≤ k_) ∧ k_ ≠ gb284 ∧ k_ ≠ gb289) ho0 (fun k_ hk_ => ⟨Or.elim hk_ (fun hs_ => hs_.1) (fun hn_ => (.inr (Nat.le_trans (below_size (by repeat (first | (with_reducible first | exact HB.out | apply b1_ | apply b2_ | apply b3_ | refine b4_ ?_ GE284.out | refine b4_ ?_ GE289.out) | exact HB.out))) hn_))), Or.elim hk_ (fun hs_ => hs_.2.1) (fun hn_ => (Kd.freshB (g := gb284) (o := .cells #[.bool a0_0, .slice A0_1 l0_1.length c0_1] 29 (0, 0)) (by (with_reducible repeat (first | refine k1_ ?_ _ | refine k2_ ?_ | refine k3_ ?_ _)); exact BK284.out) k_ hn_)), Or.elim hk_ (fun hs_ => hs_.2.2) (fun hn_ => (Kd.freshB (g := gb289) (o := .cells #[.bool t285, .slice Ao10 t286.length co10] 29 (0, 0)) (by (with_reducible repeat (first | refine k1_ ?_ _ | refine k2_ ?_ | refine k3_ ?_ _)); exact BK289.out) k_ hn_))⟩)) (below_size (by repeat (first | (with_reducible first | exact HB.out | apply b1_ | apply b2_ | apply b3_ | refine b4_ ?_ GE284.out | refine b4_ ?_ GE289.out) | exact HB.out))))
   have n3_ := a0_ (blk_below (g := gb284) (o := .cells #[.bool a0_0, .slice A0_1 l0_1.length c0_1] 29 (0, 0)) (by (with_reducible repeat (first | refine k1_ ?_ _ | refine k2_ ?_ | refine k3_ ?_ _)); exact BK284.out) hb)
   have n4_ := a0_ (blk_below (g := gb289) (o := .cells #[.bool t285, .slice Ao10 t286.length co10] 29 (0, 0)) (by (with_reducible repeat (first | refine k1_ ?_ _ | refine k2_ ?_ | refine k3_ ?_ _)); exact BK289.out) hb)
   have n5_ := a0_ (below_step (by repeat (first | (with_reducible first | exact HB.out | apply b1_ | apply b2_ | apply b3_ | refine b4_ ?_ GE284.out | refine b4_ ?_ GE289.out) | exact HB.out)) hb)
   clear HO0_1
   clear HO288
   clear BK284
   clear BK289
   clear HB
   have HO0_1 := n0_
   have HO288 := n1_
   have HO294 := n2_
   have BK284 := n3_
   have BK289 := n4_
   have HB := n5_
   clear n0_ n1_ n2_ n3_ n4_ n5_
   (try clear hb)
   (try clear hb2)
   (try clear hk)
   (try clear hi)
   (try clear ho0)
   obtain ⟨Ao19, co19, eo19⟩ := Kd.V_slice HO294.out
   (first | subst eo19 | (injection eo19 with f1_ f2_ f3_; have f4_ := f1_.symm; have f5_ := f3_.symm; clear f1_ f2_ f3_; subst f4_; subst f5_))
   refine hK.out _ _ ⟨(blk_cell BK284.out 0).trans rfl, (blk_cell BK284.out 1).trans rfl, (blk_cell BK289.out 0).trans rfl, (blk_cell BK289.out 1).trans rfl⟩ (fun hHeld => ?_)
   clear hK K
   refine norm_ (a' := ?_) ?_ ?_
   rotate_left
   ·
    show Act.put _ (some 24) _ = _
    simp only [Act.put, s1_, s2_, s3_, i64_w, i32_w]
    rfl
   refine one_ (i := 8) (N := some 25) #[true, true, true, true, true, true, true, true, true, false, false, false] rfl rfl (one_of HT_.out (by kernel_rfl)) (by decide) (fun K hK => ?_)
   refine goes_ Try.func21 (by kernel_rfl) rfl #[.agg #[.bool a0_0, .slice A0_1 l0_1.length c0_1], .agg #[.bool t291, .slice Ao19 t292.length co19]] (by rfl) rfl rfl (by (try simp only [List.map_toArray, List.map_cons, List.map_nil]); first | done | rfl | (simp only [List.length_drop, List.length_take]; rfl)) ?_
   with_reducible refine (spec_WideCmp.calls k a0_0 _ _ l0_1 t291 _ _ t292 t295 _ ?side1 ?side2 ?side3 ?side4 A14.out).mono ?_
   (case side1 => repeat (first | exact (Kd.V_reads' HO0_1.out).2.2 | (with_reducible refine Kd.C_alloc ?_ _) | (with_reducible refine Kd.C_drewN ?_ _) | (with_reducible refine Kd.C_drew ?_)))
   (case side2 => exact (Kd.V_reads' HO0_1.out).2.1)
   (case side3 => repeat (first | exact (Kd.V_reads' HO294.out).2.2 | (with_reducible refine Kd.C_alloc ?_ _) | (with_reducible refine Kd.C_drewN ?_ _) | (with_reducible refine Kd.C_drew ?_)))
   (case side4 => exact (Kd.V_reads' HO294.out).2.1)
   rintro e w20 ⟨rfl, hb⟩
   refine ⟨_, rfl, ?_⟩
   have n0_ := a0_ (Kd.V_below (by (with_reducible repeat (first | apply v1_ | apply v2_ | apply v3_)); exact HO0_1.out) hb)
   have n1_ := a0_ (Kd.V_below (by (with_reducible repeat (first | apply v1_ | apply v2_ | apply v3_)); exact HO288.out) hb)
   have n2_ := a0_ (Kd.V_below (by (with_reducible repeat (first | apply v1_ | apply v2_ | apply v3_)); exact HO294.out) hb)
   have n3_ := a0_ (blk_below (g := gb284) (o := .cells #[.bool a0_0, .slice A0_1 l0_1.length c0_1] 29 (0, 0)) (by (with_reducible repeat (first | refine k1_ ?_ _ | refine k2_ ?_ | refine k3_ ?_ _)); exact BK284.out) hb)
   have n4_ := a0_ (blk_below (g := gb289) (o := .cells #[.bool t285, .slice Ao10 t286.length co10] 29 (0, 0)) (by (with_reducible repeat (first | refine k1_ ?_ _ | refine k2_ ?_ | refine k3_ ?_ _)); exact BK289.out) hb)
   have n5_ := a0_ (below_step (by repeat (first | (with_reducible first | exact HB.out | apply b1_ | apply b2_ | apply b3_ | refine b4_ ?_ GE284.out | refine b4_ ?_ GE289.out) | exact HB.out)) hb)
   clear HO0_1
   clear HO288
   clear HO294
   clear BK284
   clear BK289
   clear HB
   have HO0_1 := n0_
   have HO288 := n1_
   have HO294 := n2_
   have BK284 := n3_
   have BK289 := n4_
   have HB := n5_
   clear n0_ n1_ n2_ n3_ n4_ n5_
   (try clear hb)
   (try clear hb2)
   (try clear hk)
   (try clear hi)
   refine hK.out _ _ ⟨(blk_cell BK284.out 0).trans rfl, (blk_cell BK284.out 1).trans rfl, (blk_cell BK289.out 0).trans rfl, (blk_cell BK289.out 1).trans rfl⟩ (fun hHeld => ?_)
   clear hK K
   refine norm_ (a' := ?_) ?_ ?_
   rotate_left
   ·
    show Act.put _ (some 25) _ = _
    simp only [Act.put, s1_, s2_, s3_, i64_w, i32_w]
    rfl
   refine pure_ (i := 9) (N := some 26) (v := ?_) (a' := ?_) #[true, true, true, true, true, true, true, true, true, true, false, false] rfl rfl (any_of HT_.out (by kernel_rfl)) (fun _ _ _ h => h) (Or.inl ⟨by rfl, ?_⟩) ?_ ?_
   rotate_left
   ·
    intro w'
    go_simp
    with_reducible rfl
   rotate_left
   ·
    simp only [Act.put, s1_, s2_, s3_, i64_w, i32_w]
    rfl
   refine pure_ (i := 10) (N := some 27) (v := ?_) (a' := ?_) #[true, true, true, true, true, true, true, true, true, true, true, false] rfl rfl (any_of HT_.out (by kernel_rfl)) (fun _ _ _ h => h) (Or.inl ⟨by rfl, ?_⟩) ?_ ?_
   rotate_left
   ·
    intro w'
    go_simp
    with_reducible rfl
   rotate_left
   ·
    simp only [Act.put, s1_, s2_, s3_, i64_w, i32_w]
    rfl
   refine pure_ (i := 11) (N := some 7) (v := ?_) (a' := ?_) #[true, true, true, true, true, true, true, true, true, true, true, true] rfl rfl (any_of HT_.out (by kernel_rfl)) (fun _ _ _ h => h) (Or.inl ⟨by rfl, ?_⟩) ?_ ?_
   rotate_left
   ·
    intro w'
    go_simp
    with_reducible rfl
   rotate_left
   ·
    simp only [Act.put, s1_, s2_, s3_, i64_w, i32_w]
    rfl
   refine done_ (done_of HT_.out (by kernel_rfl)) ?_
   try go_wp2
   go_meet
   case rel => exact ⟨_, (decide (t295 ≥ 0)), (by first | rfl | (simp; done) | (simp [*]; done)), H', ⟨by first | omega | exact Nat.le_refl _⟩, ⟨by (with_reducible repeat (first | apply v1_ | apply v2_ | apply v3_)); exact HO0_1.out⟩, ⟨by (with_reducible repeat (first | apply v1_ | apply v2_ | apply v3_)); exact HO288.out⟩, ⟨by (with_reducible repeat (first | refine k1_ ?_ _ | refine k2_ ?_ | refine k3_ ?_ _)); exact BK284.out⟩, ⟨by (with_reducible repeat (first | refine k1_ ?_ _ | refine k2_ ?_ | refine k3_ ?_ _)); exact BK289.out⟩, ⟨by repeat (first | (with_reducible first | exact HB.out | apply b1_ | apply b2_ | apply b3_ | refine b4_ ?_ GE284.out | refine b4_ ?_ GE289.out) | exact HB.out)⟩⟩
  ·
   rw [if_neg c12] at H
   have c12b0 : decide (t290 < 0) = false := d3_ c12
   clear c12
   (first | rw [c12b0] | (simp only [i64_w, i32_w]; rw [c12b0]) | skip)
   have H' := a0_ H
   clear H
   try go_wp2
   have n0_ : Aside0 (Kd.V (Kd.int .u32) 96 ((w7.setCell ⟨gb289, 0, none⟩ (.bool t285)).setCell ⟨gb289, 1, none⟩ (.slice Ao10 t286.length co10)) w.heap.size (fun k_ => (P0_1_ k_ ∨ w.heap.size ≤ k_) ∧ k_ ≠ gb284 ∧ k_ ≠ gb289) (.slice A0_1 l0_1.length c0_1) l0_1) := ⟨by (with_reducible repeat (first | apply v1_ | apply v2_ | apply v3_)); exact v4_ (v5_ (p := ⟨gb289, 1, none⟩) (v5_ (p := ⟨gb289, 0, none⟩) (v4_ HO0_1.out (fun k_ hk => (⟨hk, hk.2⟩ : _ ∧ k_ ≠ gb289))) (fun _ hk => hk.2) (.bool t285)) (fun _ hk => hk.2) (.slice Ao10 t286.length co10)) (fun _ hk => ⟨hk.1.1.1, ⟨hk.1.1.2, hk.1.2⟩⟩)⟩
   have n1_ : Aside0 (Kd.V (Kd.int .u32) 96 ((w7.setCell ⟨gb289, 0, none⟩ (.bool t285)).setCell ⟨gb289, 1, none⟩ (.slice Ao10 t286.length co10)) w.heap.size (fun k_ => (P0_1_ k_ ∨ w.heap.size ≤ k_) ∧ k_ ≠ gb284 ∧ k_ ≠ gb289) (.slice Ao10 t286.length co10) t286) := ⟨by (with_reducible repeat (first | apply v1_ | apply v2_ | apply v3_)); exact v4_ (v5_ (p := ⟨gb289, 1, none⟩) (v5_ (p := ⟨gb289, 0, none⟩) (v4_ HO288.out (fun k_ hk => (⟨hk, hk.2⟩ : _ ∧ k_ ≠ gb289))) (fun _ hk => hk.2) (.bool t285)) (fun _ hk => hk.2) (.slice Ao10 t286.length co10)) (fun _ hk => ⟨hk.1.1.1, ⟨hk.1.1.2, hk.1.2⟩⟩)⟩
   have n2_ : Aside0 (((w7.setCell ⟨gb289, 0, none⟩ (.bool t285)).setCell ⟨gb289, 1, none⟩ (.slice Ao10 t286.length co10)).heap[gb284]? = some (.cells #[.bool a0_0, .slice A0_1 l0_1.length c0_1] 29 (0, 0))) := ⟨by (with_reducible repeat (first | refine k1_ ?_ _ | refine k2_ ?_ | refine k3_ ?_ _)); refine blk_far ?_ NB284_289.out _; (with_reducible repeat (first | refine k1_ ?_ _ | refine k2_ ?_ | refine k3_ ?_ _)); refine blk_far ?_ NB284_289.out _; (with_reducible repeat (first | refine k1_ ?_ _ | refine k2_ ?_ | refine k3_ ?_ _)); exact BK284.out⟩
   have n3_ : Aside0 (((w7.setCell ⟨gb289, 0, none⟩ (.bool t285)).setCell ⟨gb289, 1, none⟩ (.slice Ao10 t286.length co10)).heap[gb289]? = some (.cells #[.bool t285, .slice Ao10 t286.length co10] 29 (0, 0))) := ⟨by (with_reducible repeat (first | refine k1_ ?_ _ | refine k2_ ?_ | refine k3_ ?_ _)); refine blk_put (cs := #[.bool t285, .slice none 0 0]) ?_ 1 _ rfl; (with_reducible repeat (first | refine k1_ ?_ _ | refine k2_ ?_ | refine k3_ ?_ _)); refine blk_put (cs := #[.bool false, .slice none 0 0]) ?_ 0 _ rfl; (with_reducible repeat (first | refine k1_ ?_ _ | refine k2_ ?_ | refine k3_ ?_ _)); exact BK289.out⟩
   have n4_ : Aside0 (Below w.heap.size w ((w7.setCell ⟨gb289, 0, none⟩ (.bool t285)).setCell ⟨gb289, 1, none⟩ (.slice Ao10 t286.length co10))) := ⟨by repeat (first | (with_reducible first | exact HB.out | apply b1_ | apply b2_ | apply b3_ | refine b4_ ?_ GE284.out | refine b4_ ?_ GE289.out) | exact HB.out)⟩
   (try clear HO0_1)
   (try clear HO288)
   (try clear BK284)
   (try clear BK289)
   (try clear HB)
   generalize ((w7.setCell ⟨gb289, 0, none⟩ (.bool t285)).setCell ⟨gb289, 1, none⟩ (.slice Ao10 t286.length co10)) = w21 at n0_ n1_ n2_ n3_ n4_ ⊢
   have HO0_1 := n0_
   have HO288 := n1_
   have BK284 := n2_
   have BK289 := n3_
   have HB := n4_
   clear n0_ n1_ n2_ n3_ n4_
   have n0_ := a0_ (v3_ HO0_1.out)
   have n1_ := a0_ (v3_ HO288.out)
   have n2_ := a0_ (k2_ BK284.out)
   have n3_ := a0_ (k2_ BK289.out)
   have n4_ := a0_ (b3_ HB.out)
   clear HO0_1
   clear HO288
   clear BK284
   clear BK289
   clear HB
   have HO0_1 := n0_
   have HO288 := n1_
   have BK284 := n2_
   have BK289 := n3_
   have HB := n4_
   clear n0_ n1_ n2_ n3_ n4_
   refine start_ (n := 12) (S := fun w' => w'.cell? ⟨gb284, 0, none⟩ = some (.bool a0_0) ∧ w'.cell? ⟨gb284, 1, none⟩ = some (.slice A0_1 l0_1.length c0_1) ∧ w'.cell? ⟨gb289, 0, none⟩ = some (.bool t285) ∧ w'.cell? ⟨gb289, 1, none⟩ = some (.slice Ao10 t286.length co10)) (ds := []) #[false, false, false, false, false, false, false, false, false, false, false, false] (by kernel_rfl) rfl rfl ⟨(blk_cell BK284.out 0).trans rfl, (blk_cell BK284.out 1).trans rfl, (blk_cell BK289.out 0).trans rfl, (blk_cell BK289.out 1).trans rfl⟩ (fun hHeld => ?_); refine with_tabW spec_ToWords.tab2 spec_ToWords.bits2 (fun HT_ HW_ => ?_)
   generalize w21.drew = w22 at HO0_1 HO288 BK284 BK289 HB hHeld ⊢
   refine take_ (i := 0) (N := some 17) (v := ?_) (a' := ?_) #[true, false, false, false, false, false, false, false, false, false, false, false] rfl rfl (take_ofW HT_.out HW_.out (by kernel_rfl)) (fun _ _ _ h => h) (Or.inl ⟨by rfl, ?_⟩) hHeld ?_ ?_
   rotate_left
   ·
    rintro w' ⟨s0, s1, s2, s3⟩
    go_simp
    with_reducible rfl
   rotate_left
   ·
    simp only [Act.put, s1_, s2_, s3_, i64_w, i32_w]
    rfl
   refine take_ (i := 1) (N := some 18) (v := ?_) (a' := ?_) #[true, true, false, false, false, false, false, false, false, false, false, false] rfl rfl (take_ofW HT_.out HW_.out (by kernel_rfl)) (fun _ _ _ h => h) (Or.inl ⟨by rfl, ?_⟩) hHeld ?_ ?_
   rotate_left
   ·
    rintro w' ⟨s0, s1, s2, s3⟩
    go_simp
    with_reducible rfl
   rotate_left
   ·
    simp only [Act.put, s1_, s2_, s3_, i64_w, i32_w]
    rfl
   refine one_ (i := 2) (N := some 19) #[true, true, true, false, false, false, false, false, false, false, false, false] rfl rfl (one_of HT_.out (by kernel_rfl)) (by decide) (fun K hK => ?_)
   refine goes_ Try.func21 (by kernel_rfl) rfl #[.agg #[.bool a0_0, .slice A0_1 l0_1.length c0_1], .agg #[.bool t285, .slice Ao10 t286.length co10]] (by rfl) rfl rfl (by (try simp only [List.map_toArray, List.map_cons, List.map_nil]); first | done | rfl | (simp only [List.length_drop, List.length_take]; rfl)) ?_
   with_reducible refine (spec_WideCmp.calls k a0_0 _ _ l0_1 t285 _ _ t286 t290 _ ?side1 ?side2 ?side3 ?side4 A11.out).mono ?_
   (case side1 => repeat (first | exact (Kd.V_reads' HO0_1.out).2.2 | (with_reducible refine Kd.C_alloc ?_ _) | (with_reducible refine Kd.C_drewN ?_ _) | (with_reducible refine Kd.C_drew ?_)))
   (case side2 => exact (Kd.V_reads' HO0_1.out).2.1)
   (case side3 => repeat (first | exact (Kd.V_reads' HO288.out).2.2 | (with_reducible refine Kd.C_alloc ?_ _) | (with_reducible refine Kd.C_drewN ?_ _) | (with_reducible refine Kd.C_drew ?_)))
   (case side4 => exact (Kd.V_reads' HO288.out).2.1)
   rintro e w23 ⟨rfl, hb⟩
   refine ⟨_, rfl, ?_⟩
   have n0_ := a0_ (Kd.V_below (by (with_reducible repeat (first | apply v1_ | apply v2_ | apply v3_)); exact HO0_1.out) hb)
   have n1_ := a0_ (Kd.V_below (by (with_reducible repeat (first | apply v1_ | apply v2_ | apply v3_)); exact HO288.out) hb)
   have n2_ := a0_ (blk_below (g := gb284) (o := .cells #[.bool a0_0, .slice A0_1 l0_1.length c0_1] 29 (0, 0)) (by (with_reducible repeat (first | refine k1_ ?_ _ | refine k2_ ?_ | refine k3_ ?_ _)); exact BK284.out) hb)
   have n3_ := a0_ (blk_below (g := gb289) (o := .cells #[.bool t285, .slice Ao10 t286.length co10] 29 (0, 0)) (by (with_reducible repeat (first | refine k1_ ?_ _ | refine k2_ ?_ | refine k3_ ?_ _)); exact BK289.out) hb)
   have n4_ := a0_ (below_step (by repeat (first | (with_reducible first | exact HB.out | apply b1_ | apply b2_ | apply b3_ | refine b4_ ?_ GE284.out | refine b4_ ?_ GE289.out) | exact HB.out)) hb)
   clear HO0_1
   clear HO288
   clear BK284
   clear BK289
   clear HB
   have HO0_1 := n0_
   have HO288 := n1_
   have BK284 := n2_
   have BK289 := n3_
   have HB := n4_
   clear n0_ n1_ n2_ n3_ n4_
   (try clear hb)
   (try clear hb2)
   (try clear hk)
   (try clear hi)
   refine hK.out _ _ ⟨(blk_cell BK284.out 0).trans rfl, (blk_cell BK284.out 1).trans rfl, (blk_cell BK289.out 0).trans rfl, (blk_cell BK289.out 1).trans rfl⟩ (fun hHeld => ?_)
   clear hK K
   refine norm_ (a' := ?_) ?_ ?_
   rotate_left
   ·
    show Act.put _ (some 19) _ = _
    simp only [Act.put, s1_, s2_, s3_, i64_w, i32_w]
    rfl
   refine pure_ (i := 3) (N := some 20) (v := ?_) (a' := ?_) #[true, true, true, true, false, false, false, false, false, false, false, false] rfl rfl (any_of HT_.out (by kernel_rfl)) (fun _ _ _ h => h) (Or.inl ⟨by rfl, ?_⟩) ?_ ?_
   rotate_left
   ·
    intro w'
    go_simp
    with_reducible rfl
   rotate_left
   ·
    simp only [Act.put, s1_, s2_, s3_, i64_w, i32_w]
    rfl
   refine pure_ (i := 4) (N := some 21) (v := ?_) (a' := ?_) #[true, true, true, true, true, false, false, false, false, false, false, false] rfl rfl (any_of HT_.out (by kernel_rfl)) (fun _ _ _ h => h) (Or.inl ⟨by rfl, ?_⟩) ?_ ?_
   rotate_left
   ·
    intro w'
    go_simp
    with_reducible rfl
   rotate_left
   ·
    simp only [Act.put, s1_, s2_, s3_, i64_w, i32_w]
    rfl
   refine pure_ (i := 5) (N := some 22) (v := undef) (a' := ?_) #[true, true, true, true, true, true, false, false, false, false, false, false] rfl rfl (any_of HT_.out (by kernel_rfl)) (fun _ _ _ h => h) (Or.inr ⟨by rfl, rfl⟩) ?_ ?_
   rotate_left
   ·
    simp only [Act.put, s1_, s2_, s3_, i64_w, i32_w]
    rfl
   refine pure_ (i := 6) (N := some 23) (v := undef) (a' := ?_) #[true, true, true, true, true, true, true, false, false, false, false, false] rfl rfl (any_of HT_.out (by kernel_rfl)) (fun _ _ _ h => h) (Or.inr ⟨by rfl, rfl⟩) ?_ ?_
   rotate_left
   ·
    simp only [Act.put, s1_, s2_, s3_, i64_w, i32_w]
    rfl
   refine pure_ (i := 7) (N := some 24) (v := undef) (a' := ?_) #[true, true, true, true, true, true, true, true, false, false, false, false] rfl rfl (any_of HT_.out (by kernel_rfl)) (fun _ _ _ h => h) (Or.inr ⟨by rfl, rfl⟩) ?_ ?_
   rotate_left
   ·
    simp only [Act.put, s1_, s2_, s3_, i64_w, i32_w]
    rfl
   refine pure_ (i := 8) (N := some 25) (v := undef) (a' := ?_) #[true, true, true, true, true, true, true, true, true, false, false, false] rfl rfl (any_of HT_.out (by kernel_rfl)) (fun _ _ _ h => h) (Or.inr ⟨by rfl, rfl⟩) ?_ ?_
   rotate_left
   ·
    simp only [Act.put, s1_, s2_, s3_, i64_w, i32_w]
    rfl
   refine pure_ (i := 9) (N := some 26) (v := undef) (a' := ?_) #[true, true, true, true, true, true, true, true, true, true, false, false] rfl rfl (any_of HT_.out (by kernel_rfl)) (fun _ _ _ h => h) (Or.inr ⟨by rfl, rfl⟩) ?_ ?_
   rotate_left
   ·
    simp only [Act.put, s1_, s2_, s3_, i64_w, i32_w]
    rfl
   refine pure_ (i := 10) (N := some 27) (v := ?_) (a' := ?_) #[true, true, true, true, true, true, true, true, true, true, true, false] rfl rfl (any_of HT_.out (by kernel_rfl)) (fun _ _ _ h => h) (Or.inl ⟨by rfl, ?_⟩) ?_ ?_
   rotate_left
   ·
    intro w'
    go_simp
    with_reducible rfl
   rotate_left
   ·
    simp only [Act.put, s1_, s2_, s3_, i64_w, i32_w]
    rfl
   refine pure_ (i := 11) (N := some 7) (v := ?_) (a' := ?_) #[true, true, true, true, true, true, true, true, true, true, true, true] rfl rfl (any_of HT_.out (by kernel_rfl)) (fun _ _ _ h => h) (Or.inl ⟨by rfl, ?_⟩) ?_ ?_
   rotate_left
   ·
    intro w'
    go_simp
    with_reducible rfl
   rotate_left
   ·
    simp only [Act.put, s1_, s2_, s3_, i64_w, i32_w]
    rfl
   refine done_ (done_of HT_.out (by kernel_rfl)) ?_
   try go_wp2
   go_meet
   case rel => exact ⟨_, (false), (by first | rfl | (simp; done) | (simp [*]; done)), H', ⟨by first | omega | exact Nat.le_refl _⟩, ⟨by (with_reducible repeat (first | apply v1_ | apply v2_ | apply v3_)); exact HO0_1.out⟩, ⟨by (with_reducible repeat (first | apply v1_ | apply v2_ | apply v3_)); exact HO288.out⟩, ⟨by (with_reducible repeat (first | refine k1_ ?_ _ | refine k2_ ?_ | refine k3_ ?_ _)); exact BK284.out⟩, ⟨by (with_reducible repeat (first | refine k1_ ?_ _ | refine k2_ ?_ | refine k3_ ?_ _)); exact BK289.out⟩, ⟨by repeat (first | (with_reducible first | exact HB.out | apply b1_ | apply b2_ | apply b3_ | refine b4_ ?_ GE284.out | refine b4_ ?_ GE289.out) | exact HB.out)⟩⟩
 case rest =>
  clear HC4
  try clear c1
  try clear c2
  try clear p2
  try clear c3
  try clear p6
  try clear c7
  try clear c8
  try clear c12
  try clear c12b0
  try clear c16
  try clear c21
  try clear hcz9_0
  try clear hcz9_1
  try clear hfz9_0
  try clear hfz9_1
  obtain ⟨kq, x7_3, rfl, HA, HJ3, HO_285001, HO_290001, BK284, BK289, HB⟩ := hcut
  cases kq with
  | zero => exact absurd HA.out (by simp [spec_ToWords.j0])
  | succ kj3 =>
   have H := HA.out
   clear HA
   simp only [spec_ToWords.j0] at H
   have HC24 := a0_ H
   clear H
   have hnb25 := NB284_289.out
   have hnc25 := NB289_284.out
   have hcz26_0 : wc.cell? ⟨gb284, 0, none⟩ = some (.bool a0_0) := (blk_cell BK284.out 0).trans rfl
   have hcz26_1 : wc.cell? ⟨gb284, 1, none⟩ = some (.slice A0_1 l0_1.length c0_1) := (blk_cell BK284.out 1).trans rfl
   have hfz26_0 := blk_frozen BK284.out 0
   have hfz26_1 := blk_frozen BK284.out 1
   go_upto_if 29 with (fail)
   go_cut [] (fun wc => ∃ (kq : Nat) (x285000_23 : Bool) (x285001_23 : List Int) (u285001 : Value), Aside0 (spec_ToWords.j1 kq a1 x7_3 x285000_23 x285001_23 = some (r1, r2)) ∧ Aside0 (kq ≤ kj3) ∧ Aside0 (Kd.V (Kd.int .u32) 96 wc w.heap.size (fun k_ => (P0_1_ k_ ∨ w.heap.size ≤ k_) ∧ k_ ≠ gb284 ∧ k_ ≠ gb289) u285001 x285001_23) ∧ Aside0 (Kd.V (Kd.int .u32) 96 wc w.heap.size (fun k_ => (P0_1_ k_ ∨ w.heap.size ≤ k_) ∧ k_ ≠ gb284 ∧ k_ ≠ gb289) (.slice Ao10 t286.length co10) t286) ∧ Aside0 (wc.heap[gb284]? = some (.cells #[.bool x285000_23, u285001] 29 (0, 0))) ∧ Aside0 (wc.heap[gb289]? = some (.cells #[.bool t285, (.slice Ao10 t286.length co10)] 29 (0, 0))) ∧ Aside0 (Below w.heap.size w wc))
   case first =>
    have H := HC24.out
    clear HC24
    by_cases c27 : a0_0 = true
    ·
     subst c27
     have H1 : ((spec_Two.f kj3 (wrap64 (64 * a1))).bind fun bt296 => ((spec_WideDiv.f kj3 true l0_1 bt296.1 bt296.2).bind fun bt300 => ((spec_Two.f kj3 (wrap64 (64 * a1))).bind fun bt310 => ((spec_WideAdd.f kj3 bt300.2.2.1 bt300.2.2.2 bt310.1 bt310.2).bind fun bt314 => (spec_ToWords.j1 kj3 a1 x7_3 bt314.1 bt314.2))))) = some (r1, r2) := by rw [if_pos rfl] at H; exact H
     clear H
     have H := H1
     clear H1
     replace H := Option.bind_eq_some_iff.mp H
     obtain ⟨⟨t296, t297⟩, A280, H⟩ := H
     replace H : ((spec_WideDiv.f kj3 true l0_1 t296 t297).bind fun bt300 => ((spec_Two.f kj3 (wrap64 (64 * a1))).bind fun bt310 => ((spec_WideAdd.f kj3 bt300.2.2.1 bt300.2.2.2 bt310.1 bt310.2).bind fun bt314 => (spec_ToWords.j1 kj3 a1 x7_3 bt314.1 bt314.2)))) = some (r1, r2) := H
     have A28 := a0_ A280
     clear A280
     replace H := Option.bind_eq_some_iff.mp H
     obtain ⟨⟨t300, t301, t304, t305⟩, A290, H⟩ := H
     replace H : ((spec_Two.f kj3 (wrap64 (64 * a1))).bind fun bt310 => ((spec_WideAdd.f kj3 t304 t305 bt310.1 bt310.2).bind fun bt314 => (spec_ToWords.j1 kj3 a1 x7_3 bt314.1 bt314.2))) = some (r1, r2) := H
     have A29 := a0_ A290
     clear A290
     replace H := Option.bind_eq_some_iff.mp H
     obtain ⟨⟨t310, t311⟩, A300, H⟩ := H
     replace H : ((spec_WideAdd.f kj3 t304 t305 t310 t311).bind fun bt314 => (spec_ToWords.j1 kj3 a1 x7_3 bt314.1 bt314.2)) = some (r1, r2) := H
     have A30 := a0_ A300
     clear A300
     replace H := Option.bind_eq_some_iff.mp H
     obtain ⟨⟨t314, t315⟩, A310, H⟩ := H
     replace H : (spec_ToWords.j1 kj3 a1 x7_3 t314 t315) = some (r1, r2) := H
     have A31 := a0_ A310
     clear A310
     have H' := a0_ H
     clear H
     try go_wp2
     have n0_ := a0_ (v3_ HO_285001.out)
     have n1_ := a0_ (v3_ HO_290001.out)
     have n2_ := a0_ (k2_ BK284.out)
     have n3_ := a0_ (k2_ BK289.out)
     have n4_ := a0_ (b3_ HB.out)
     clear HO_285001
     clear HO_290001
     clear BK284
     clear BK289
     clear HB
     have HO_285001 := n0_
     have HO_290001 := n1_
     have BK284 := n2_
     have BK289 := n3_
     have HB := n4_
     clear n0_ n1_ n2_ n3_ n4_
     refine start_ (n := 12) (S := fun w' => w'.cell? ⟨gb284, 0, none⟩ = some (.bool true) ∧ w'.cell? ⟨gb284, 1, none⟩ = some (.slice A0_1 l0_1.length c0_1)) (ds := []) #[false, false, false, false, false, false, false, false, false, false, false, false] (by kernel_rfl) rfl rfl ⟨(blk_cell BK284.out 0).trans rfl, (blk_cell BK284.out 1).trans rfl⟩ (fun hHeld => ?_); refine with_tabW spec_ToWords.tab4 spec_ToWords.bits4 (fun HT_ HW_ => ?_)
     generalize wc.drew = w32 at HO_285001 HO_290001 BK284 BK289 HB hHeld ⊢
     refine pure_ (i := 1) (N := some 32) (v := ?_) (a' := ?_) #[false, true, false, false, false, false, false, false, false, false, false, false] rfl rfl (any_of HT_.out (by kernel_rfl)) (fun _ _ _ h => h) (Or.inl ⟨by rfl, ?_⟩) ?_ ?_
     rotate_left
     ·
      intro w'
      go_simp
      with_reducible rfl
     rotate_left
     ·
      simp only [Act.put, s1_, s2_, s3_, i64_w, i32_w]
      rfl
     refine pure_ (i := 2) (N := some 33) (v := ?_) (a' := ?_) #[false, true, true, false, false, false, false, false, false, false, false, false] rfl rfl (any_of HT_.out (by kernel_rfl)) (fun _ _ _ h => h) (Or.inl ⟨by rfl, ?_⟩) ?_ ?_
     rotate_left
     ·
      intro w'
      go_simp
      with_reducible rfl
     rotate_left
     ·
      simp only [Act.put, s1_, s2_, s3_, i64_w, i32_w]
      rfl
     refine take_ (i := 0) (N := some 31) (v := ?_) (a' := ?_) #[true, true, true, false, false, false, false, false, false, false, false, false] rfl rfl (take_ofW HT_.out HW_.out (by kernel_rfl)) (fun _ _ _ h => h) (Or.inl ⟨by rfl, ?_⟩) hHeld ?_ ?_
     rotate_left
     ·
      rintro w' ⟨s0, s1⟩
      go_simp
      with_reducible rfl
     rotate_left
     ·
      simp only [Act.put, s1_, s2_, s3_, i64_w, i32_w]
      rfl
     refine join_ (σ := Value × Value × Value × Nat × Nat) 2 #[true, true, true, true, true, true, true, true, true, true, false, false] (fun s_ => [(34, .agg #[.bool t296, s_.1]), (35, .tuple #[.agg #[.bool t300, s_.2.1], .agg #[.bool t304, s_.2.2.1]]), (8, .pointer (some ⟨s_.2.2.2.1, 0, none⟩)), (9, .pointer (some ⟨s_.2.2.2.2, 0, none⟩)), (30, .tuple #[.agg #[.bool t300, s_.2.1], .agg #[.bool t304, s_.2.2.1]]), (36, .agg #[.bool t300, s_.2.1]), (37, .agg #[.bool t304, s_.2.2.1])]) (fun s_ w' => (w'.cell? ⟨gb284, 0, none⟩ = some (.bool true) ∧ w'.cell? ⟨gb284, 1, none⟩ = some (.slice A0_1 l0_1.length c0_1)) ∧ (Kd.V (Kd.int .u32) 96 w' w.heap.size (fun k_ => (P0_1_ k_ ∨ w.heap.size ≤ k_) ∧ k_ ≠ gb284 ∧ k_ ≠ gb289 ∧ k_ ≠ s_.2.2.2.1 ∧ k_ ≠ s_.2.2.2.2) s_.1 t297) ∧ (Kd.V (Kd.int .u32) 96 w' w.heap.size (fun k_ => (P0_1_ k_ ∨ w.heap.size ≤ k_) ∧ k_ ≠ gb284 ∧ k_ ≠ gb289 ∧ k_ ≠ s_.2.2.2.1 ∧ k_ ≠ s_.2.2.2.2) s_.2.1 t301) ∧ (Kd.V (Kd.int .u32) 96 w' w.heap.size (fun k_ => (P0_1_ k_ ∨ w.heap.size ≤ k_) ∧ k_ ≠ gb284 ∧ k_ ≠ gb289 ∧ k_ ≠ s_.2.2.2.1 ∧ k_ ≠ s_.2.2.2.2) s_.2.2.1 t305) ∧ (Kd.V (Kd.int .u32) 96 w' w.heap.size (fun k_ => (P0_1_ k_ ∨ w.heap.size ≤ k_) ∧ k_ ≠ gb284 ∧ k_ ≠ gb289 ∧ k_ ≠ s_.2.2.2.1 ∧ k_ ≠ s_.2.2.2.2) (.slice A0_1 l0_1.length c0_1) l0_1) ∧ (Kd.V (Kd.int .u32) 96 w' w.heap.size (fun k_ => (P0_1_ k_ ∨ w.heap.size ≤ k_) ∧ k_ ≠ gb284 ∧ k_ ≠ gb289 ∧ k_ ≠ s_.2.2.2.1 ∧ k_ ≠ s_.2.2.2.2) (.slice Ao10 t286.length co10) t286) ∧ (w'.heap[gb284]? = some (.cells #[.bool true, .slice A0_1 l0_1.length c0_1] 29 (0, 0))) ∧ (w'.heap[gb289]? = some (.cells #[.bool t285, .slice Ao10 t286.length co10] 29 (0, 0))) ∧ (w'.heap[s_.2.2.2.1]? = some (.cells #[.bool false, .slice none 0 0] 29 (0, 0))) ∧ (w'.heap[s_.2.2.2.2]? = some (.cells #[.bool false, .slice none 0 0] 29 (0, 0))) ∧ (w.heap.size ≤ s_.2.2.2.1) ∧ (w.heap.size ≤ s_.2.2.2.1) ∧ (gb284 ≠ s_.2.2.2.1) ∧ (s_.2.2.2.1 ≠ gb284) ∧ (gb289 ≠ s_.2.2.2.1) ∧ (s_.2.2.2.1 ≠ gb289) ∧ (s_.2.2.2.2 ≠ s_.2.2.2.1) ∧ (s_.2.2.2.1 ≠ s_.2.2.2.2) ∧ (w.heap.size ≤ s_.2.2.2.2) ∧ (w.heap.size ≤ s_.2.2.2.2) ∧ (gb284 ≠ s_.2.2.2.2) ∧ (s_.2.2.2.2 ≠ gb284) ∧ (gb289 ≠ s_.2.2.2.2) ∧ (s_.2.2.2.2 ≠ gb289) ∧ (Below w.heap.size w w')) ?_ ?_
     rotate_left
     ·
      intro hJ3_4_8_9
      refine join_ (σ := Value × Value × Value × Nat) 3 #[true, true, true, true, true, true, true, true, true, false, false, false] (fun s_ => [(34, .agg #[.bool t296, s_.1]), (35, .tuple #[.agg #[.bool t300, s_.2.1], .agg #[.bool t304, s_.2.2.1]]), (8, .pointer (some ⟨s_.2.2.2, 0, none⟩)), (30, .tuple #[.agg #[.bool t300, s_.2.1], .agg #[.bool t304, s_.2.2.1]]), (36, .agg #[.bool t300, s_.2.1]), (37, .agg #[.bool t304, s_.2.2.1])]) (fun s_ w' => (w'.cell? ⟨gb284, 0, none⟩ = some (.bool true) ∧ w'.cell? ⟨gb284, 1, none⟩ = some (.slice A0_1 l0_1.length c0_1)) ∧ (Kd.V (Kd.int .u32) 96 w' w.heap.size (fun k_ => (P0_1_ k_ ∨ w.heap.size ≤ k_) ∧ k_ ≠ gb284 ∧ k_ ≠ gb289 ∧ k_ ≠ s_.2.2.2) s_.1 t297) ∧ (Kd.V (Kd.int .u32) 96 w' w.heap.size (fun k_ => (P0_1_ k_ ∨ w.heap.size ≤ k_) ∧ k_ ≠ gb284 ∧ k_ ≠ gb289 ∧ k_ ≠ s_.2.2.2) s_.2.1 t301) ∧ (Kd.V (Kd.int .u32) 96 w' w.heap.size (fun k_ => (P0_1_ k_ ∨ w.heap.size ≤ k_) ∧ k_ ≠ gb284 ∧ k_ ≠ gb289 ∧ k_ ≠ s_.2.2.2) s_.2.2.1 t305) ∧ (Kd.V (Kd.int .u32) 96 w' w.heap.size (fun k_ => (P0_1_ k_ ∨ w.heap.size ≤ k_) ∧ k_ ≠ gb284 ∧ k_ ≠ gb289 ∧ k_ ≠ s_.2.2.2) (.slice A0_1 l0_1.length c0_1) l0_1) ∧ (Kd.V (Kd.int .u32) 96 w' w.heap.size (fun k_ => (P0_1_ k_ ∨ w.heap.size ≤ k_) ∧ k_ ≠ gb284 ∧ k_ ≠ gb289 ∧ k_ ≠ s_.2.2.2) (.slice Ao10 t286.length co10) t286) ∧ (w'.heap[gb284]? = some (.cells #[.bool true, .slice A0_1 l0_1.length c0_1] 29 (0, 0))) ∧ (w'.heap[gb289]? = some (.cells #[.bool t285, .slice Ao10 t286.length co10] 29 (0, 0))) ∧ (w'.heap[s_.2.2.2]? = some (.cells #[.bool false, .slice none 0 0] 29 (0, 0))) ∧ (w.heap.size ≤ s_.2.2.2) ∧ (w.heap.size ≤ s_.2.2.2) ∧ (gb284 ≠ s_.2.2.2) ∧ (s_.2.2.2 ≠ gb284) ∧ (gb289 ≠ s_.2.2.2) ∧ (s_.2.2.2 ≠ gb289) ∧ (Below w.heap.size w w')) ?_ ?_
      rotate_left
      ·
       intro hJ3_4_8
       refine join_ (σ := Value × Value × Value × Nat) 3 #[true, true, true, true, true, true, true, true, false, true, false, false] (fun s_ => [(34, .agg #[.bool t296, s_.1]), (35, .tuple #[.agg #[.bool t300, s_.2.1], .agg #[.bool t304, s_.2.2.1]]), (9, .pointer (some ⟨s_.2.2.2, 0, none⟩)), (30, .tuple #[.agg #[.bool t300, s_.2.1], .agg #[.bool t304, s_.2.2.1]]), (36, .agg #[.bool t300, s_.2.1]), (37, .agg #[.bool t304, s_.2.2.1])]) (fun s_ w' => (w'.cell? ⟨gb284, 0, none⟩ = some (.bool true) ∧ w'.cell? ⟨gb284, 1, none⟩ = some (.slice A0_1 l0_1.length c0_1)) ∧ (Kd.V (Kd.int .u32) 96 w' w.heap.size (fun k_ => (P0_1_ k_ ∨ w.heap.size ≤ k_) ∧ k_ ≠ gb284 ∧ k_ ≠ gb289 ∧ k_ ≠ s_.2.2.2) s_.1 t297) ∧ (Kd.V (Kd.int .u32) 96 w' w.heap.size (fun k_ => (P0_1_ k_ ∨ w.heap.size ≤ k_) ∧ k_ ≠ gb284 ∧ k_ ≠ gb289 ∧ k_ ≠ s_.2.2.2) s_.2.1 t301) ∧ (Kd.V (Kd.int .u32) 96 w' w.heap.size (fun k_ => (P0_1_ k_ ∨ w.heap.size ≤ k_) ∧ k_ ≠ gb284 ∧ k_ ≠ gb289 ∧ k_ ≠ s_.2.2.2) s_.2.2.1 t305) ∧ (Kd.V (Kd.int .u32) 96 w' w.heap.size (fun k_ => (P0_1_ k_ ∨ w.heap.size ≤ k_) ∧ k_ ≠ gb284 ∧ k_ ≠ gb289 ∧ k_ ≠ s_.2.2.2) (.slice A0_1 l0_1.length c0_1) l0_1) ∧ (Kd.V (Kd.int .u32) 96 w' w.heap.size (fun k_ => (P0_1_ k_ ∨ w.heap.size ≤ k_) ∧ k_ ≠ gb284 ∧ k_ ≠ gb289 ∧ k_ ≠ s_.2.2.2) (.slice Ao10 t286.length co10) t286) ∧ (w'.heap[gb284]? = some (.cells #[.bool true, .slice A0_1 l0_1.length c0_1] 29 (0, 0))) ∧ (w'.heap[gb289]? = some (.cells #[.bool t285, .slice Ao10 t286.length co10] 29 (0, 0))) ∧ (w'.heap[s_.2.2.2]? = some (.cells #[.bool false, .slice none 0 0] 29 (0, 0))) ∧ (w.heap.size ≤ s_.2.2.2) ∧ (w.heap.size ≤ s_.2.2.2) ∧ (gb284 ≠ s_.2.2.2) ∧ (s_.2.2.2 ≠ gb284) ∧ (gb289 ≠ s_.2.2.2) ∧ (s_.2.2.2 ≠ gb289) ∧ (Below w.heap.size w w')) ?_ ?_
       rotate_left
       ·
        intro hJ3_4_9
        refine join_ (σ := Value × Nat × Nat) 6 #[true, true, true, true, false, false, false, false, true, true, false, false] (fun s_ => [(34, .agg #[.bool t296, s_.1]), (8, .pointer (some ⟨s_.2.1, 0, none⟩)), (9, .pointer (some ⟨s_.2.2, 0, none⟩))]) (fun s_ w' => (w'.cell? ⟨gb284, 0, none⟩ = some (.bool true) ∧ w'.cell? ⟨gb284, 1, none⟩ = some (.slice A0_1 l0_1.length c0_1)) ∧ (Kd.V (Kd.int .u32) 96 w' w.heap.size (fun k_ => (P0_1_ k_ ∨ w.heap.size ≤ k_) ∧ k_ ≠ gb284 ∧ k_ ≠ gb289 ∧ k_ ≠ s_.2.1 ∧ k_ ≠ s_.2.2) s_.1 t297) ∧ (Kd.V (Kd.int .u32) 96 w' w.heap.size (fun k_ => (P0_1_ k_ ∨ w.heap.size ≤ k_) ∧ k_ ≠ gb284 ∧ k_ ≠ gb289 ∧ k_ ≠ s_.2.1 ∧ k_ ≠ s_.2.2) (.slice A0_1 l0_1.length c0_1) l0_1) ∧ (Kd.V (Kd.int .u32) 96 w' w.heap.size (fun k_ => (P0_1_ k_ ∨ w.heap.size ≤ k_) ∧ k_ ≠ gb284 ∧ k_ ≠ gb289 ∧ k_ ≠ s_.2.1 ∧ k_ ≠ s_.2.2) (.slice Ao10 t286.length co10) t286) ∧ (w'.heap[gb284]? = some (.cells #[.bool true, .slice A0_1 l0_1.length c0_1] 29 (0, 0))) ∧ (w'.heap[gb289]? = some (.cells #[.bool t285, .slice Ao10 t286.length co10] 29 (0, 0))) ∧ (w'.heap[s_.2.1]? = some (.cells #[.bool false, .slice none 0 0] 29 (0, 0))) ∧ (w'.heap[s_.2.2]? = some (.cells #[.bool false, .slice none 0 0] 29 (0, 0))) ∧ (w.heap.size ≤ s_.2.1) ∧ (w.heap.size ≤ s_.2.1) ∧ (gb284 ≠ s_.2.1) ∧ (s_.2.1 ≠ gb284) ∧ (gb289 ≠ s_.2.1) ∧ (s_.2.1 ≠ gb289) ∧ (s_.2.2 ≠ s_.2.1) ∧ (s_.2.1 ≠ s_.2.2) ∧ (w.heap.size ≤ s_.2.2) ∧ (w.heap.size ≤ s_.2.2) ∧ (gb284 ≠ s_.2.2) ∧ (s_.2.2 ≠ gb284) ∧ (gb289 ≠ s_.2.2) ∧ (s_.2.2 ≠ gb289) ∧ (Below w.heap.size w w')) ?_ ?_
        rotate_left
        ·
         intro hJ3_8_9
         refine join_ (σ := Value × Value × Value) 4 #[true, true, true, true, true, true, true, true, false, false, false, false] (fun s_ => [(34, .agg #[.bool t296, s_.1]), (35, .tuple #[.agg #[.bool t300, s_.2.1], .agg #[.bool t304, s_.2.2]]), (30, .tuple #[.agg #[.bool t300, s_.2.1], .agg #[.bool t304, s_.2.2]]), (36, .agg #[.bool t300, s_.2.1]), (37, .agg #[.bool t304, s_.2.2])]) (fun s_ w' => (w'.cell? ⟨gb284, 0, none⟩ = some (.bool true) ∧ w'.cell? ⟨gb284, 1, none⟩ = some (.slice A0_1 l0_1.length c0_1)) ∧ (Kd.V (Kd.int .u32) 96 w' w.heap.size (fun k_ => (P0_1_ k_ ∨ w.heap.size ≤ k_) ∧ k_ ≠ gb284 ∧ k_ ≠ gb289) s_.1 t297) ∧ (Kd.V (Kd.int .u32) 96 w' w.heap.size (fun k_ => (P0_1_ k_ ∨ w.heap.size ≤ k_) ∧ k_ ≠ gb284 ∧ k_ ≠ gb289) s_.2.1 t301) ∧ (Kd.V (Kd.int .u32) 96 w' w.heap.size (fun k_ => (P0_1_ k_ ∨ w.heap.size ≤ k_) ∧ k_ ≠ gb284 ∧ k_ ≠ gb289) s_.2.2 t305) ∧ (Kd.V (Kd.int .u32) 96 w' w.heap.size (fun k_ => (P0_1_ k_ ∨ w.heap.size ≤ k_) ∧ k_ ≠ gb284 ∧ k_ ≠ gb289) (.slice A0_1 l0_1.length c0_1) l0_1) ∧ (Kd.V (Kd.int .u32) 96 w' w.heap.size (fun k_ => (P0_1_ k_ ∨ w.heap.size ≤ k_) ∧ k_ ≠ gb284 ∧ k_ ≠ gb289) (.slice Ao10 t286.length co10) t286) ∧ (w'.heap[gb284]? = some (.cells #[.bool true, .slice A0_1 l0_1.length c0_1] 29 (0, 0))) ∧ (w'.heap[gb289]? = some (.cells #[.bool t285, .slice Ao10 t286.length co10] 29 (0, 0))) ∧ (Below w.heap.size w w')) ?_ ?_
         rotate_left
         ·
          intro hJ3_4
          refine join_ (σ := Value × Nat) 7 #[true, true, true, true, false, false, false, false, true, false, false, false] (fun s_ => [(34, .agg #[.bool t296, s_.1]), (8, .pointer (some ⟨s_.2, 0, none⟩))]) (fun s_ w' => (w'.cell? ⟨gb284, 0, none⟩ = some (.bool true) ∧ w'.cell? ⟨gb284, 1, none⟩ = some (.slice A0_1 l0_1.length c0_1)) ∧ (Kd.V (Kd.int .u32) 96 w' w.heap.size (fun k_ => (P0_1_ k_ ∨ w.heap.size ≤ k_) ∧ k_ ≠ gb284 ∧ k_ ≠ gb289 ∧ k_ ≠ s_.2) s_.1 t297) ∧ (Kd.V (Kd.int .u32) 96 w' w.heap.size (fun k_ => (P0_1_ k_ ∨ w.heap.size ≤ k_) ∧ k_ ≠ gb284 ∧ k_ ≠ gb289 ∧ k_ ≠ s_.2) (.slice A0_1 l0_1.length c0_1) l0_1) ∧ (Kd.V (Kd.int .u32) 96 w' w.heap.size (fun k_ => (P0_1_ k_ ∨ w.heap.size ≤ k_) ∧ k_ ≠ gb284 ∧ k_ ≠ gb289 ∧ k_ ≠ s_.2) (.slice Ao10 t286.length co10) t286) ∧ (w'.heap[gb284]? = some (.cells #[.bool true, .slice A0_1 l0_1.length c0_1] 29 (0, 0))) ∧ (w'.heap[gb289]? = some (.cells #[.bool t285, .slice Ao10 t286.length co10] 29 (0, 0))) ∧ (w'.heap[s_.2]? = some (.cells #[.bool false, .slice none 0 0] 29 (0, 0))) ∧ (w.heap.size ≤ s_.2) ∧ (w.heap.size ≤ s_.2) ∧ (gb284 ≠ s_.2) ∧ (s_.2 ≠ gb284) ∧ (gb289 ≠ s_.2) ∧ (s_.2 ≠ gb289) ∧ (Below w.heap.size w w')) ?_ ?_
          rotate_left
          ·
           intro hJ3_8
           refine join_ (σ := Value × Nat) 7 #[true, true, true, true, false, false, false, false, false, true, false, false] (fun s_ => [(34, .agg #[.bool t296, s_.1]), (9, .pointer (some ⟨s_.2, 0, none⟩))]) (fun s_ w' => (w'.cell? ⟨gb284, 0, none⟩ = some (.bool true) ∧ w'.cell? ⟨gb284, 1, none⟩ = some (.slice A0_1 l0_1.length c0_1)) ∧ (Kd.V (Kd.int .u32) 96 w' w.heap.size (fun k_ => (P0_1_ k_ ∨ w.heap.size ≤ k_) ∧ k_ ≠ gb284 ∧ k_ ≠ gb289 ∧ k_ ≠ s_.2) s_.1 t297) ∧ (Kd.V (Kd.int .u32) 96 w' w.heap.size (fun k_ => (P0_1_ k_ ∨ w.heap.size ≤ k_) ∧ k_ ≠ gb284 ∧ k_ ≠ gb289 ∧ k_ ≠ s_.2) (.slice A0_1 l0_1.length c0_1) l0_1) ∧ (Kd.V (Kd.int .u32) 96 w' w.heap.size (fun k_ => (P0_1_ k_ ∨ w.heap.size ≤ k_) ∧ k_ ≠ gb284 ∧ k_ ≠ gb289 ∧ k_ ≠ s_.2) (.slice Ao10 t286.length co10) t286) ∧ (w'.heap[gb284]? = some (.cells #[.bool true, .slice A0_1 l0_1.length c0_1] 29 (0, 0))) ∧ (w'.heap[gb289]? = some (.cells #[.bool t285, .slice Ao10 t286.length co10] 29 (0, 0))) ∧ (w'.heap[s_.2]? = some (.cells #[.bool false, .slice none 0 0] 29 (0, 0))) ∧ (w.heap.size ≤ s_.2) ∧ (w.heap.size ≤ s_.2) ∧ (gb284 ≠ s_.2) ∧ (s_.2 ≠ gb284) ∧ (gb289 ≠ s_.2) ∧ (s_.2 ≠ gb289) ∧ (Below w.heap.size w w')) ?_ ?_
           rotate_left
           ·
            intro hJ3_9
            refine join_ (σ := Nat × Nat) 7 #[true, true, true, false, false, false, false, false, true, true, false, false] (fun s_ => [(8, .pointer (some ⟨s_.1, 0, none⟩)), (9, .pointer (some ⟨s_.2, 0, none⟩))]) (fun s_ w' => (w'.cell? ⟨gb284, 0, none⟩ = some (.bool true) ∧ w'.cell? ⟨gb284, 1, none⟩ = some (.slice A0_1 l0_1.length c0_1)) ∧ (Kd.V (Kd.int .u32) 96 w' w.heap.size (fun k_ => (P0_1_ k_ ∨ w.heap.size ≤ k_) ∧ k_ ≠ gb284 ∧ k_ ≠ gb289 ∧ k_ ≠ s_.1 ∧ k_ ≠ s_.2) (.slice A0_1 l0_1.length c0_1) l0_1) ∧ (Kd.V (Kd.int .u32) 96 w' w.heap.size (fun k_ => (P0_1_ k_ ∨ w.heap.size ≤ k_) ∧ k_ ≠ gb284 ∧ k_ ≠ gb289 ∧ k_ ≠ s_.1 ∧ k_ ≠ s_.2) (.slice Ao10 t286.length co10) t286) ∧ (w'.heap[gb284]? = some (.cells #[.bool true, .slice A0_1 l0_1.length c0_1] 29 (0, 0))) ∧ (w'.heap[gb289]? = some (.cells #[.bool t285, .slice Ao10 t286.length co10] 29 (0, 0))) ∧ (w'.heap[s_.1]? = some (.cells #[.bool false, .slice none 0 0] 29 (0, 0))) ∧ (w'.heap[s_.2]? = some (.cells #[.bool false, .slice none 0 0] 29 (0, 0))) ∧ (w.heap.size ≤ s_.1) ∧ (w.heap.size ≤ s_.1) ∧ (gb284 ≠ s_.1) ∧ (s_.1 ≠ gb284) ∧ (gb289 ≠ s_.1) ∧ (s_.1 ≠ gb289) ∧ (s_.2 ≠ s_.1) ∧ (s_.1 ≠ s_.2) ∧ (w.heap.size ≤ s_.2) ∧ (w.heap.size ≤ s_.2) ∧ (gb284 ≠ s_.2) ∧ (s_.2 ≠ gb284) ∧ (gb289 ≠ s_.2) ∧ (s_.2 ≠ gb289) ∧ (Below w.heap.size w w')) ?_ ?_
            rotate_left
            ·
             intro hJ8_9
             refine join_ (σ := Value) 8 #[true, true, true, true, false, false, false, false, false, false, false, false] (fun s_ => [(34, .agg #[.bool t296, s_])]) (fun s_ w' => (w'.cell? ⟨gb284, 0, none⟩ = some (.bool true) ∧ w'.cell? ⟨gb284, 1, none⟩ = some (.slice A0_1 l0_1.length c0_1)) ∧ (Kd.V (Kd.int .u32) 96 w' w.heap.size (fun k_ => (P0_1_ k_ ∨ w.heap.size ≤ k_) ∧ k_ ≠ gb284 ∧ k_ ≠ gb289) s_ t297) ∧ (Kd.V (Kd.int .u32) 96 w' w.heap.size (fun k_ => (P0_1_ k_ ∨ w.heap.size ≤ k_) ∧ k_ ≠ gb284 ∧ k_ ≠ gb289) (.slice A0_1 l0_1.length c0_1) l0_1) ∧ (Kd.V (Kd.int .u32) 96 w' w.heap.size (fun k_ => (P0_1_ k_ ∨ w.heap.size ≤ k_) ∧ k_ ≠ gb284 ∧ k_ ≠ gb289) (.slice Ao10 t286.length co10) t286) ∧ (w'.heap[gb284]? = some (.cells #[.bool true, .slice A0_1 l0_1.length c0_1] 29 (0, 0))) ∧ (w'.heap[gb289]? = some (.cells #[.bool t285, .slice Ao10 t286.length co10] 29 (0, 0))) ∧ (Below w.heap.size w w')) ?_ ?_
             rotate_left
             ·
              intro hJ3
              refine join_ (σ := Nat) 8 #[true, true, true, false, false, false, false, false, true, false, false, false] (fun s_ => [(8, .pointer (some ⟨s_, 0, none⟩))]) (fun s_ w' => (w'.cell? ⟨gb284, 0, none⟩ = some (.bool true) ∧ w'.cell? ⟨gb284, 1, none⟩ = some (.slice A0_1 l0_1.length c0_1)) ∧ (Kd.V (Kd.int .u32) 96 w' w.heap.size (fun k_ => (P0_1_ k_ ∨ w.heap.size ≤ k_) ∧ k_ ≠ gb284 ∧ k_ ≠ gb289 ∧ k_ ≠ s_) (.slice A0_1 l0_1.length c0_1) l0_1) ∧ (Kd.V (Kd.int .u32) 96 w' w.heap.size (fun k_ => (P0_1_ k_ ∨ w.heap.size ≤ k_) ∧ k_ ≠ gb284 ∧ k_ ≠ gb289 ∧ k_ ≠ s_) (.slice Ao10 t286.length co10) t286) ∧ (w'.heap[gb284]? = some (.cells #[.bool true, .slice A0_1 l0_1.length c0_1] 29 (0, 0))) ∧ (w'.heap[gb289]? = some (.cells #[.bool t285, .slice Ao10 t286.length co10] 29 (0, 0))) ∧ (w'.heap[s_]? = some (.cells #[.bool false, .slice none 0 0] 29 (0, 0))) ∧ (w.heap.size ≤ s_) ∧ (w.heap.size ≤ s_) ∧ (gb284 ≠ s_) ∧ (s_ ≠ gb284) ∧ (gb289 ≠ s_) ∧ (s_ ≠ gb289) ∧ (Below w.heap.size w w')) ?_ ?_
              rotate_left
              ·
               intro hJ8
               refine join_ (σ := Nat) 8 #[true, true, true, false, false, false, false, false, false, true, false, false] (fun s_ => [(9, .pointer (some ⟨s_, 0, none⟩))]) (fun s_ w' => (w'.cell? ⟨gb284, 0, none⟩ = some (.bool true) ∧ w'.cell? ⟨gb284, 1, none⟩ = some (.slice A0_1 l0_1.length c0_1)) ∧ (Kd.V (Kd.int .u32) 96 w' w.heap.size (fun k_ => (P0_1_ k_ ∨ w.heap.size ≤ k_) ∧ k_ ≠ gb284 ∧ k_ ≠ gb289 ∧ k_ ≠ s_) (.slice A0_1 l0_1.length c0_1) l0_1) ∧ (Kd.V (Kd.int .u32) 96 w' w.heap.size (fun k_ => (P0_1_ k_ ∨ w.heap.size ≤ k_) ∧ k_ ≠ gb284 ∧ k_ ≠ gb289 ∧ k_ ≠ s_) (.slice Ao10 t286.length co10) t286) ∧ (w'.heap[gb284]? = some (.cells #[.bool true, .slice A0_1 l0_1.length c0_1] 29 (0, 0))) ∧ (w'.heap[gb289]? = some (.cells #[.bool t285, .slice Ao10 t286.length co10] 29 (0, 0))) ∧ (w'.heap[s_]? = some (.cells #[.bool false, .slice none 0 0] 29 (0, 0))) ∧ (w.heap.size ≤ s_) ∧ (w.heap.size ≤ s_) ∧ (gb284 ≠ s_) ∧ (s_ ≠ gb284) ∧ (gb289 ≠ s_) ∧ (s_ ≠ gb289) ∧ (Below w.heap.size w w')) ?_ ?_
               rotate_left
               ·
                intro hJ9
                refine three_ (i := 3) (j := 8) (k := 9) (Ni := some 34) (Nj := some 8) (Nk := some 9) #[true, true, true, true, false, false, false, false, false, false, false, false] #[true, true, true, false, false, false, false, false, true, false, false, false] #[true, true, true, false, false, false, false, false, false, true, false, false] rfl rfl rfl rfl rfl rfl (three_of HT_.out (by kernel_rfl)) (by decide) (by decide) (by decide) (fun K hK => ?_) (fun K hK => ?_) (fun K hK => ?_)
                ·
                 skip
                 refine goes_ Try.func72 (by kernel_rfl) rfl #[.int .i64 (wrap64 (64 * a1))] (by rfl) rfl rfl (by (try simp only [List.map_toArray, List.map_cons, List.map_nil]); first | done | rfl | (simp only [List.length_drop, List.length_take]; rfl)) ?_
                 with_reducible refine (spec_Two.calls kj3 (wrap64 (64 * a1)) t296 t297 _ A28.out).mono ?_
                 rintro e w33 ⟨v298, rfl, ho0, hb⟩
                 refine ⟨_, rfl, ?_⟩
                 have n0_ := a0_ (Kd.V_below (by (with_reducible repeat (first | apply v1_ | apply v2_ | apply v3_)); exact HO_285001.out) hb)
                 have n1_ := a0_ (Kd.V_below (by (with_reducible repeat (first | apply v1_ | apply v2_ | apply v3_)); exact HO_290001.out) hb)
                 have n2_ := a0_ (Kd.V_lower (v4_ (ok' := fun k_ => (P0_1_ k_ ∨ w.heap.size ≤ k_) ∧ k_ ≠ gb284 ∧ k_ ≠ gb289) ho0 (fun k_ hk_ => ⟨(.inr (Nat.le_trans (below_size (by repeat (first | (with_reducible first | exact HB.out | apply b1_ | apply b2_ | apply b3_ | refine b4_ ?_ GE284.out | refine b4_ ?_ GE289.out) | exact HB.out))) hk_)), (Kd.freshB (g := gb284) (o := .cells #[.bool true, .slice A0_1 l0_1.length c0_1] 29 (0, 0)) (by (with_reducible repeat (first | refine k1_ ?_ _ | refine k2_ ?_ | refine k3_ ?_ _)); exact BK284.out) k_ hk_), (Kd.freshB (g := gb289) (o := .cells #[.bool t285, .slice Ao10 t286.length co10] 29 (0, 0)) (by (with_reducible repeat (first | refine k1_ ?_ _ | refine k2_ ?_ | refine k3_ ?_ _)); exact BK289.out) k_ hk_)⟩)) (below_size (by repeat (first | (with_reducible first | exact HB.out | apply b1_ | apply b2_ | apply b3_ | refine b4_ ?_ GE284.out | refine b4_ ?_ GE289.out) | exact HB.out))))
                 have n3_ := a0_ (blk_below (g := gb284) (o := .cells #[.bool true, .slice A0_1 l0_1.length c0_1] 29 (0, 0)) (by (with_reducible repeat (first | refine k1_ ?_ _ | refine k2_ ?_ | refine k3_ ?_ _)); exact BK284.out) hb)
                 have n4_ := a0_ (blk_below (g := gb289) (o := .cells #[.bool t285, .slice Ao10 t286.length co10] 29 (0, 0)) (by (with_reducible repeat (first | refine k1_ ?_ _ | refine k2_ ?_ | refine k3_ ?_ _)); exact BK289.out) hb)
                 have n5_ := a0_ (below_step (by repeat (first | (with_reducible first | exact HB.out | apply b1_ | apply b2_ | apply b3_ | refine b4_ ?_ GE284.out | refine b4_ ?_ GE289.out) | exact HB.out)) hb)
                 clear HO_285001
                 clear HO_290001
                 clear BK284
                 clear BK289
                 clear HB
                 have HO_285001 := n0_
                 have HO_290001 := n1_
                 have HO299 := n2_
                 have BK284 := n3_
                 have BK289 := n4_
                 have HB := n5_
                 clear n0_ n1_ n2_ n3_ n4_ n5_
                 (try clear hb)
                 (try clear hb2)
                 (try clear hk)
                 (try clear hi)
                 (try clear ho0)
                 refine hK.out _ _ ⟨(blk_cell BK284.out 0).trans rfl, (blk_cell BK284.out 1).trans rfl⟩ (fun hHeld => ?_)
                 clear hK K
                 refine norm_ (a' := ?_) ?_ ?_
                 rotate_left
                 ·
                  show Act.put _ (some 34) _ = _
                  simp only [Act.put, s1_, s2_, s3_, i64_w, i32_w]
                  rfl
                 exact norm_ (by first | (simp only [putAll, Act.put, s1_, s2_, s3_]; done) | (simp only [putAll, Act.put, s1_, s2_, s3_]; rfl)) (hJ3 (v298) _ ⟨hHeld, (by (with_reducible repeat (first | apply v1_ | apply v2_ | apply v3_)); exact HO299.out), (by (with_reducible repeat (first | apply v1_ | apply v2_ | apply v3_)); exact HO_285001.out), (by (with_reducible repeat (first | apply v1_ | apply v2_ | apply v3_)); exact HO_290001.out), (by (with_reducible repeat (first | refine k1_ ?_ _ | refine k2_ ?_ | refine k3_ ?_ _)); exact BK284.out), (by (with_reducible repeat (first | refine k1_ ?_ _ | refine k2_ ?_ | refine k3_ ?_ _)); exact BK289.out), (by repeat (first | (with_reducible first | exact HB.out | apply b1_ | apply b2_ | apply b3_ | refine b4_ ?_ GE284.out | refine b4_ ?_ GE289.out) | exact HB.out))⟩)
                ·
                 skip
                 refine box_step ?hg (N := 8) ?hd (cs := #[.bool false, .slice none 0 0]) (t := 29) ?hr ?_; (case hd => rfl); (case hg => rfl); (case hr => first | (go_simp; done) | (go_simp; rfl))
                 intro gb308 hg w33 hbox hb
                 have n0_ := a0_ (Kd.V_below (Kd.V_elderB (by (with_reducible repeat (first | apply v1_ | apply v2_ | apply v3_)); exact HO_285001.out) gb308 (Nat.le_of_eq hg.symm)) hb)
                 have n1_ := a0_ (Kd.V_below (Kd.V_elderB (by (with_reducible repeat (first | apply v1_ | apply v2_ | apply v3_)); exact HO_290001.out) gb308 (Nat.le_of_eq hg.symm)) hb)
                 have n2_ := a0_ (blk_below (g := gb284) (o := .cells #[.bool true, .slice A0_1 l0_1.length c0_1] 29 (0, 0)) (by (with_reducible repeat (first | refine k1_ ?_ _ | refine k2_ ?_ | refine k3_ ?_ _)); exact BK284.out) hb)
                 have n3_ := a0_ (blk_below (g := gb289) (o := .cells #[.bool t285, .slice Ao10 t286.length co10] 29 (0, 0)) (by (with_reducible repeat (first | refine k1_ ?_ _ | refine k2_ ?_ | refine k3_ ?_ _)); exact BK289.out) hb)
                 have n4_ := a0_ (below_step (by repeat (first | (with_reducible first | exact HB.out | apply b1_ | apply b2_ | apply b3_ | refine b4_ ?_ GE284.out | refine b4_ ?_ GE289.out) | exact HB.out)) hb)
                 have n5_ := a0_ (hbox)
                 have n6_ := a0_ ((by rw [hg]; exact (below_size (by repeat (first | (with_reducible first | exact HB.out | apply b1_ | apply b2_ | apply b3_ | refine b4_ ?_ GE284.out | refine b4_ ?_ GE289.out) | exact HB.out))) : w.heap.size ≤ gb308))
                 have n7_ := a0_ ((by rw [hg]; exact (below_size (by repeat (first | (with_reducible first | exact HB.out | apply b1_ | apply b2_ | apply b3_ | refine b4_ ?_ GE284.out | refine b4_ ?_ GE289.out) | exact HB.out))) : w.heap.size ≤ gb308))
                 have n8_ := a0_ ((by rw [hg]; exact Nat.ne_of_lt (blk_lt (g := gb284) (o := .cells #[.bool true, .slice A0_1 l0_1.length c0_1] 29 (0, 0)) (by (with_reducible repeat (first | refine k1_ ?_ _ | refine k2_ ?_ | refine k3_ ?_ _)); exact BK284.out)) : gb284 ≠ gb308))
                 have n9_ := a0_ ((by rw [hg]; exact Nat.ne_of_gt (blk_lt (g := gb284) (o := .cells #[.bool true, .slice A0_1 l0_1.length c0_1] 29 (0, 0)) (by (with_reducible repeat (first | refine k1_ ?_ _ | refine k2_ ?_ | refine k3_ ?_ _)); exact BK284.out)) : gb308 ≠ gb284))
                 have n10_ := a0_ ((by rw [hg]; exact Nat.ne_of_lt (blk_lt (g := gb289) (o := .cells #[.bool t285, .slice Ao10 t286.length co10] 29 (0, 0)) (by (with_reducible repeat (first | refine k1_ ?_ _ | refine k2_ ?_ | refine k3_ ?_ _)); exact BK289.out)) : gb289 ≠ gb308))
                 have n11_ := a0_ ((by rw [hg]; exact Nat.ne_of_gt (blk_lt (g := gb289) (o := .cells #[.bool t285, .slice Ao10 t286.length co10] 29 (0, 0)) (by (with_reducible repeat (first | refine k1_ ?_ _ | refine k2_ ?_ | refine k3_ ?_ _)); exact BK289.out)) : gb308 ≠ gb289))
                 clear HO_285001
                 clear HO_290001
                 clear BK284
                 clear BK289
                 clear HB
                 have HO_285001 := n0_
                 have HO_290001 := n1_
                 have BK284 := n2_
                 have BK289 := n3_
                 have HB := n4_
                 have BK308 := n5_
                 have GW308 := n6_
                 have GE308 := n7_
                 have NB284_308 := n8_
                 have NB308_284 := n9_
                 have NB289_308 := n10_
                 have NB308_289 := n11_
                 clear n0_ n1_ n2_ n3_ n4_ n5_ n6_ n7_ n8_ n9_ n10_ n11_
                 clear hb hbox hg
                 refine hK.out _ _ ⟨(blk_cell BK284.out 0).trans rfl, (blk_cell BK284.out 1).trans rfl⟩ (fun hHeld => ?_)
                 clear hK K
                 refine norm_ (a' := ?_) ?_ ?_
                 rotate_left
                 ·
                  show Act.put _ (some 8) _ = _
                  simp only [Act.put, s1_, s2_, s3_, i64_w, i32_w]
                  rfl
                 exact norm_ (by first | (simp only [putAll, Act.put, s1_, s2_, s3_]; done) | (simp only [putAll, Act.put, s1_, s2_, s3_]; rfl)) (hJ8 (gb308) _ ⟨hHeld, (by (with_reducible repeat (first | apply v1_ | apply v2_ | apply v3_)); exact v4_ HO_285001.out (fun _ hk => ⟨hk.1.1, ⟨hk.1.2.1, ⟨hk.1.2.2, hk.2⟩⟩⟩)), (by (with_reducible repeat (first | apply v1_ | apply v2_ | apply v3_)); exact v4_ HO_290001.out (fun _ hk => ⟨hk.1.1, ⟨hk.1.2.1, ⟨hk.1.2.2, hk.2⟩⟩⟩)), (by (with_reducible repeat (first | refine k1_ ?_ _ | refine k2_ ?_ | refine k3_ ?_ _)); exact BK284.out), (by (with_reducible repeat (first | refine k1_ ?_ _ | refine k2_ ?_ | refine k3_ ?_ _)); exact BK289.out), (by (with_reducible repeat (first | refine k1_ ?_ _ | refine k2_ ?_ | refine k3_ ?_ _)); exact BK308.out), GW308.out, GE308.out, NB284_308.out, NB308_284.out, NB289_308.out, NB308_289.out, (by repeat (first | (with_reducible first | exact HB.out | apply b1_ | apply b2_ | apply b3_ | refine b4_ ?_ GE284.out | refine b4_ ?_ GE289.out | refine b4_ ?_ GE308.out) | exact HB.out))⟩)
                ·
                 skip
                 refine box_step ?hg (N := 9) ?hd (cs := #[.bool false, .slice none 0 0]) (t := 29) ?hr ?_; (case hd => rfl); (case hg => rfl); (case hr => first | (go_simp; done) | (go_simp; rfl))
                 intro gb309 hg w33 hbox hb
                 have n0_ := a0_ (Kd.V_below (Kd.V_elderB (by (with_reducible repeat (first | apply v1_ | apply v2_ | apply v3_)); exact HO_285001.out) gb309 (Nat.le_of_eq hg.symm)) hb)
                 have n1_ := a0_ (Kd.V_below (Kd.V_elderB (by (with_reducible repeat (first | apply v1_ | apply v2_ | apply v3_)); exact HO_290001.out) gb309 (Nat.le_of_eq hg.symm)) hb)
                 have n2_ := a0_ (blk_below (g := gb284) (o := .cells #[.bool true, .slice A0_1 l0_1.length c0_1] 29 (0, 0)) (by (with_reducible repeat (first | refine k1_ ?_ _ | refine k2_ ?_ | refine k3_ ?_ _)); exact BK284.out) hb)
                 have n3_ := a0_ (blk_below (g := gb289) (o := .cells #[.bool t285, .slice Ao10 t286.length co10] 29 (0, 0)) (by (with_reducible repeat (first | refine k1_ ?_ _ | refine k2_ ?_ | refine k3_ ?_ _)); exact BK289.out) hb)
                 have n4_ := a0_ (below_step (by repeat (first | (with_reducible first | exact HB.out | apply b1_ | apply b2_ | apply b3_ | refine b4_ ?_ GE284.out | refine b4_ ?_ GE289.out) | exact HB.out)) hb)
                 have n5_ := a0_ (hbox)
                 have n6_ := a0_ ((by rw [hg]; exact (below_size (by repeat (first | (with_reducible first | exact HB.out | apply b1_ | apply b2_ | apply b3_ | refine b4_ ?_ GE284.out | refine b4_ ?_ GE289.out) | exact HB.out))) : w.heap.size ≤ gb309))
                 have n7_ := a0_ ((by rw [hg]; exact (below_size (by repeat (first | (with_reducible first | exact HB.out | apply b1_ | apply b2_ | apply b3_ | refine b4_ ?_ GE284.out | refine b4_ ?_ GE289.out) | exact HB.out))) : w.heap.size ≤ gb309))
                 have n8_ := a0_ ((by rw [hg]; exact Nat.ne_of_lt (blk_lt (g := gb284) (o := .cells #[.bool true, .slice A0_1 l0_1.length c0_1] 29 (0, 0)) (by (with_reducible repeat (first | refine k1_ ?_ _ | refine k2_ ?_ | refine k3_ ?_ _)); exact BK284.out)) : gb284 ≠ gb309))
                 have n9_ := a0_ ((by rw [hg]; exact Nat.ne_of_gt (blk_lt (g := gb284) (o := .cells #[.bool true, .slice A0_1 l0_1.length c0_1] 29 (0, 0)) (by (with_reducible repeat (first | refine k1_ ?_ _ | refine k2_ ?_ | refine k3_ ?_ _)); exact BK284.out)) : gb309 ≠ gb284))
                 have n10_ := a0_ ((by rw [hg]; exact Nat.ne_of_lt (blk_lt (g := gb289) (o := .cells #[.bool t285, .slice Ao10 t286.length co10] 29 (0, 0)) (by (with_reducible repeat (first | refine k1_ ?_ _ | refine k2_ ?_ | refine k3_ ?_ _)); exact BK289.out)) : gb289 ≠ gb309))
                 have n11_ := a0_ ((by rw [hg]; exact Nat.ne_of_gt (blk_lt (g := gb289) (o := .cells #[.bool t285, .slice Ao10 t286.length co10] 29 (0, 0)) (by (with_reducible repeat (first | refine k1_ ?_ _ | refine k2_ ?_ | refine k3_ ?_ _)); exact BK289.out)) : gb309 ≠ gb289))
                 clear HO_285001
                 clear HO_290001
                 clear BK284
                 clear BK289
                 clear HB
                 have HO_285001 := n0_
                 have HO_290001 := n1_
                 have BK284 := n2_
                 have BK289 := n3_
                 have HB := n4_
                 have BK309 := n5_
                 have GW309 := n6_
                 have GE309 := n7_
                 have NB284_309 := n8_
                 have NB309_284 := n9_
                 have NB289_309 := n10_
                 have NB309_289 := n11_
                 clear n0_ n1_ n2_ n3_ n4_ n5_ n6_ n7_ n8_ n9_ n10_ n11_
                 clear hb hbox hg
                 refine hK.out _ _ ⟨(blk_cell BK284.out 0).trans rfl, (blk_cell BK284.out 1).trans rfl⟩ (fun hHeld => ?_)
                 clear hK K
                 refine norm_ (a' := ?_) ?_ ?_
                 rotate_left
                 ·
                  show Act.put _ (some 9) _ = _
                  simp only [Act.put, s1_, s2_, s3_, i64_w, i32_w]
                  rfl
                 exact norm_ (by first | (simp only [putAll, Act.put, s1_, s2_, s3_]; done) | (simp only [putAll, Act.put, s1_, s2_, s3_]; rfl)) (hJ9 (gb309) _ ⟨hHeld, (by (with_reducible repeat (first | apply v1_ | apply v2_ | apply v3_)); exact v4_ HO_285001.out (fun _ hk => ⟨hk.1.1, ⟨hk.1.2.1, ⟨hk.1.2.2, hk.2⟩⟩⟩)), (by (with_reducible repeat (first | apply v1_ | apply v2_ | apply v3_)); exact v4_ HO_290001.out (fun _ hk => ⟨hk.1.1, ⟨hk.1.2.1, ⟨hk.1.2.2, hk.2⟩⟩⟩)), (by (with_reducible repeat (first | refine k1_ ?_ _ | refine k2_ ?_ | refine k3_ ?_ _)); exact BK284.out), (by (with_reducible repeat (first | refine k1_ ?_ _ | refine k2_ ?_ | refine k3_ ?_ _)); exact BK289.out), (by (with_reducible repeat (first | refine k1_ ?_ _ | refine k2_ ?_ | refine k3_ ?_ _)); exact BK309.out), GW309.out, GE309.out, NB284_309.out, NB309_284.out, NB289_309.out, NB309_289.out, (by repeat (first | (with_reducible first | exact HB.out | apply b1_ | apply b2_ | apply b3_ | refine b4_ ?_ GE284.out | refine b4_ ?_ GE289.out | refine b4_ ?_ GE309.out) | exact HB.out))⟩)
               ·
                skip
                rintro gb309 w34 ⟨hS_, h0_, h1_, h2_, h3_, h4_, h5_, h6_, h7_, h8_, h9_, h10_, h11_⟩
                have n0_ : Aside0 (Kd.V (Kd.int .u32) 96 w34 w.heap.size (fun k_ => (P0_1_ k_ ∨ w.heap.size ≤ k_) ∧ k_ ≠ gb284 ∧ k_ ≠ gb289 ∧ k_ ≠ gb309) (.slice A0_1 l0_1.length c0_1) l0_1) := ⟨h0_⟩
                have n1_ : Aside0 (Kd.V (Kd.int .u32) 96 w34 w.heap.size (fun k_ => (P0_1_ k_ ∨ w.heap.size ≤ k_) ∧ k_ ≠ gb284 ∧ k_ ≠ gb289 ∧ k_ ≠ gb309) (.slice Ao10 t286.length co10) t286) := ⟨h1_⟩
                have n2_ : Aside0 (w34.heap[gb284]? = some (.cells #[.bool true, .slice A0_1 l0_1.length c0_1] 29 (0, 0))) := ⟨h2_⟩
                have n3_ : Aside0 (w34.heap[gb289]? = some (.cells #[.bool t285, .slice Ao10 t286.length co10] 29 (0, 0))) := ⟨h3_⟩
                have n4_ : Aside0 (w34.heap[gb309]? = some (.cells #[.bool false, .slice none 0 0] 29 (0, 0))) := ⟨h4_⟩
                have n5_ : Aside0 (w.heap.size ≤ gb309) := ⟨h5_⟩
                have n6_ : Aside0 (w.heap.size ≤ gb309) := ⟨h6_⟩
                have n7_ : Aside0 (gb284 ≠ gb309) := ⟨h7_⟩
                have n8_ : Aside0 (gb309 ≠ gb284) := ⟨h8_⟩
                have n9_ : Aside0 (gb289 ≠ gb309) := ⟨h9_⟩
                have n10_ : Aside0 (gb309 ≠ gb289) := ⟨h10_⟩
                have n11_ : Aside0 (Below w.heap.size w w34) := ⟨h11_⟩
                clear HO_285001
                clear HO_290001
                clear BK284
                clear BK289
                clear HB
                clear h0_ h1_ h2_ h3_ h4_ h5_ h6_ h7_ h8_ h9_ h10_ h11_
                have HO_285001 := n0_
                have HO_290001 := n1_
                have BK284 := n2_
                have BK289 := n3_
                have BK309 := n4_
                have GW309 := n5_
                have GE309 := n6_
                have NB284_309 := n7_
                have NB309_284 := n8_
                have NB289_309 := n9_
                have NB309_289 := n10_
                have HB := n11_
                clear n0_ n1_ n2_ n3_ n4_ n5_ n6_ n7_ n8_ n9_ n10_ n11_
                have hHeld : w34.cell? ⟨gb284, 0, none⟩ = some (.bool true) ∧ w34.cell? ⟨gb284, 1, none⟩ = some (.slice A0_1 l0_1.length c0_1) := hS_
                refine norm_ (a' := ?_) ?_ ?_
                rotate_left
                ·
                 simp only [putAll, Act.put, s1_, s2_, s3_]
                 rfl
                refine two_ (i := 3) (j := 8) (Ni := some 34) (Nj := some 8) #[true, true, true, true, false, false, false, false, false, true, false, false] #[true, true, true, false, false, false, false, false, true, true, false, false] rfl rfl rfl rfl (two_of HT_.out (by kernel_rfl)) (by decide) (by decide) (fun K hK => ?_) (fun K hK => ?_)
                ·
                 skip
                 refine goes_ Try.func72 (by kernel_rfl) rfl #[.int .i64 (wrap64 (64 * a1))] (by rfl) rfl rfl (by (try simp only [List.map_toArray, List.map_cons, List.map_nil]); first | done | rfl | (simp only [List.length_drop, List.length_take]; rfl)) ?_
                 with_reducible refine (spec_Two.calls kj3 (wrap64 (64 * a1)) t296 t297 _ A28.out).mono ?_
                 rintro e w35 ⟨v298, rfl, ho0, hb⟩
                 refine ⟨_, rfl, ?_⟩
                 have n0_ := a0_ (Kd.V_below (by (with_reducible repeat (first | apply v1_ | apply v2_ | apply v3_)); exact HO_285001.out) hb)
                 have n1_ := a0_ (Kd.V_below (by (with_reducible repeat (first | apply v1_ | apply v2_ | apply v3_)); exact HO_290001.out) hb)
                 have n2_ := a0_ (Kd.V_lower (v4_ (ok' := fun k_ => (P0_1_ k_ ∨ w.heap.size ≤ k_) ∧ k_ ≠ gb284 ∧ k_ ≠ gb289 ∧ k_ ≠ gb309) ho0 (fun k_ hk_ => ⟨(.inr (Nat.le_trans (below_size (by repeat (first | (with_reducible first | exact HB.out | apply b1_ | apply b2_ | apply b3_ | refine b4_ ?_ GE284.out | refine b4_ ?_ GE289.out | refine b4_ ?_ GE309.out) | exact HB.out))) hk_)), (Kd.freshB (g := gb284) (o := .cells #[.bool true, .slice A0_1 l0_1.length c0_1] 29 (0, 0)) (by (with_reducible repeat (first | refine k1_ ?_ _ | refine k2_ ?_ | refine k3_ ?_ _)); exact BK284.out) k_ hk_), (Kd.freshB (g := gb289) (o := .cells #[.bool t285, .slice Ao10 t286.length co10] 29 (0, 0)) (by (with_reducible repeat (first | refine k1_ ?_ _ | refine k2_ ?_ | refine k3_ ?_ _)); exact BK289.out) k_ hk_), (Kd.freshB (g := gb309) (o := .cells #[.bool false, .slice none 0 0] 29 (0, 0)) (by (with_reducible repeat (first | refine k1_ ?_ _ | refine k2_ ?_ | refine k3_ ?_ _)); exact BK309.out) k_ hk_)⟩)) (below_size (by repeat (first | (with_reducible first | exact HB.out | apply b1_ | apply b2_ | apply b3_ | refine b4_ ?_ GE284.out | refine b4_ ?_ GE289.out | refine b4_ ?_ GE309.out) | exact HB.out))))
                 have n3_ := a0_ (blk_below (g := gb284) (o := .cells #[.bool true, .slice A0_1 l0_1.length c0_1] 29 (0, 0)) (by (with_reducible repeat (first | refine k1_ ?_ _ | refine k2_ ?_ | refine k3_ ?_ _)); exact BK284.out) hb)
                 have n4_ := a0_ (blk_below (g := gb289) (o := .cells #[.bool t285, .slice Ao10 t286.length co10] 29 (0, 0)) (by (with_reducible repeat (first | refine k1_ ?_ _ | refine k2_ ?_ | refine k3_ ?_ _)); exact BK289.out) hb)
                 have n5_ := a0_ (blk_below (g := gb309) (o := .cells #[.bool false, .slice none 0 0] 29 (0, 0)) (by (with_reducible repeat (first | refine k1_ ?_ _ | refine k2_ ?_ | refine k3_ ?_ _)); exact BK309.out) hb)
                 have n6_ := a0_ (below_step (by repeat (first | (with_reducible first | exact HB.out | apply b1_ | apply b2_ | apply b3_ | refine b4_ ?_ GE284.out | refine b4_ ?_ GE289.out | refine b4_ ?_ GE309.out) | exact HB.out)) hb)
                 clear HO_285001
                 clear HO_290001
                 clear BK284
                 clear BK289
                 clear BK309
                 clear HB
                 have HO_285001 := n0_
                 have HO_290001 := n1_
                 have HO299 := n2_
                 have BK284 := n3_
                 have BK289 := n4_
                 have BK309 := n5_
                 have HB := n6_
                 clear n0_ n1_ n2_ n3_ n4_ n5_ n6_
                 (try clear hb)
                 (try clear hb2)
                 (try clear hk)
                 (try clear hi)
                 (try clear ho0)
                 refine hK.out _ _ ⟨(blk_cell BK284.out 0).trans rfl, (blk_cell BK284.out 1).trans rfl⟩ (fun hHeld => ?_)
                 clear hK K
                 refine norm_ (a' := ?_) ?_ ?_
                 rotate_left
                 ·
                  show Act.put _ (some 34) _ = _
                  simp only [Act.put, s1_, s2_, s3_, i64_w, i32_w]
                  rfl
                 exact norm_ (by first | (simp only [putAll, Act.put, s1_, s2_, s3_]; done) | (simp only [putAll, Act.put, s1_, s2_, s3_]; rfl)) (hJ3_9 (v298, gb309) _ ⟨hHeld, (by (with_reducible repeat (first | apply v1_ | apply v2_ | apply v3_)); exact HO299.out), (by (with_reducible repeat (first | apply v1_ | apply v2_ | apply v3_)); exact HO_285001.out), (by (with_reducible repeat (first | apply v1_ | apply v2_ | apply v3_)); exact HO_290001.out), (by (with_reducible repeat (first | refine k1_ ?_ _ | refine k2_ ?_ | refine k3_ ?_ _)); exact BK284.out), (by (with_reducible repeat (first | refine k1_ ?_ _ | refine k2_ ?_ | refine k3_ ?_ _)); exact BK289.out), (by (with_reducible repeat (first | refine k1_ ?_ _ | refine k2_ ?_ | refine k3_ ?_ _)); exact BK309.out), GW309.out, GE309.out, NB284_309.out, NB309_284.out, NB289_309.out, NB309_289.out, (by repeat (first | (with_reducible first | exact HB.out | apply b1_ | apply b2_ | apply b3_ | refine b4_ ?_ GE284.out | refine b4_ ?_ GE289.out | refine b4_ ?_ GE309.out) | exact HB.out))⟩)
                ·
                 skip
                 refine box_step ?hg (N := 8) ?hd (cs := #[.bool false, .slice none 0 0]) (t := 29) ?hr ?_; (case hd => rfl); (case hg => rfl); (case hr => first | (go_simp; done) | (go_simp; rfl))
                 intro gb308 hg w35 hbox hb
                 have n0_ := a0_ (Kd.V_below (Kd.V_elderB (by (with_reducible repeat (first | apply v1_ | apply v2_ | apply v3_)); exact HO_285001.out) gb308 (Nat.le_of_eq hg.symm)) hb)
                 have n1_ := a0_ (Kd.V_below (Kd.V_elderB (by (with_reducible repeat (first | apply v1_ | apply v2_ | apply v3_)); exact HO_290001.out) gb308 (Nat.le_of_eq hg.symm)) hb)
                 have n2_ := a0_ (blk_below (g := gb284) (o := .cells #[.bool true, .slice A0_1 l0_1.length c0_1] 29 (0, 0)) (by (with_reducible repeat (first | refine k1_ ?_ _ | refine k2_ ?_ | refine k3_ ?_ _)); exact BK284.out) hb)
                 have n3_ := a0_ (blk_below (g := gb289) (o := .cells #[.bool t285, .slice Ao10 t286.length co10] 29 (0, 0)) (by (with_reducible repeat (first | refine k1_ ?_ _ | refine k2_ ?_ | refine k3_ ?_ _)); exact BK289.out) hb)
                 have n4_ := a0_ (blk_below (g := gb309) (o := .cells #[.bool false, .slice none 0 0] 29 (0, 0)) (by (with_reducible repeat (first | refine k1_ ?_ _ | refine k2_ ?_ | refine k3_ ?_ _)); exact BK309.out) hb)
                 have n5_ := a0_ (below_step (by repeat (first | (with_reducible first | exact HB.out | apply b1_ | apply b2_ | apply b3_ | refine b4_ ?_ GE284.out | refine b4_ ?_ GE289.out | refine b4_ ?_ GE309.out) | exact HB.out)) hb)
                 have n6_ := a0_ (hbox)
                 have n7_ := a0_ ((by rw [hg]; exact (below_size (by repeat (first | (with_reducible first | exact HB.out | apply b1_ | apply b2_ | apply b3_ | refine b4_ ?_ GE284.out | refine b4_ ?_ GE289.out | refine b4_ ?_ GE309.out) | exact HB.out))) : w.heap.size ≤ gb308))
                 have n8_ := a0_ ((by rw [hg]; exact (below_size (by repeat (first | (with_reducible first | exact HB.out | apply b1_ | apply b2_ | apply b3_ | refine b4_ ?_ GE284.out | refine b4_ ?_ GE289.out | refine b4_ ?_ GE309.out) | exact HB.out))) : w.heap.size ≤ gb308))
                 have n9_ := a0_ ((by rw [hg]; exact Nat.ne_of_lt (blk_lt (g := gb284) (o := .cells #[.bool true, .slice A0_1 l0_1.length c0_1] 29 (0, 0)) (by (with_reducible repeat (first | refine k1_ ?_ _ | refine k2_ ?_ | refine k3_ ?_ _)); exact BK284.out)) : gb284 ≠ gb308))
                 have n10_ := a0_ ((by rw [hg]; exact Nat.ne_of_gt (blk_lt (g := gb284) (o := .cells #[.bool true, .slice A0_1 l0_1.length c0_1] 29 (0, 0)) (by (with_reducible repeat (first | refine k1_ ?_ _ | refine k2_ ?_ | refine k3_ ?_ _)); exact BK284.out)) : gb308 ≠ gb284))
                 have n11_ := a0_ ((by rw [hg]; exact Nat.ne_of_lt (blk_lt (g := gb289) (o := .cells #[.bool t285, .slice Ao10 t286.length co10] 29 (0, 0)) (by (with_reducible repeat (first | refine k1_ ?_ _ | refine k2_ ?_ | refine k3_ ?_ _)); exact BK289.out)) : gb289 ≠ gb308))
                 have n12_ := a0_ ((by rw [hg]; exact Nat.ne_of_gt (blk_lt (g := gb289) (o := .cells #[.bool t285, .slice Ao10 t286.length co10] 29 (0, 0)) (by (with_reducible repeat (first | refine k1_ ?_ _ | refine k2_ ?_ | refine k3_ ?_ _)); exact BK289.out)) : gb308 ≠ gb289))
                 have n13_ := a0_ ((by rw [hg]; exact Nat.ne_of_lt (blk_lt (g := gb309) (o := .cells #[.bool false, .slice none 0 0] 29 (0, 0)) (by (with_reducible repeat (first | refine k1_ ?_ _ | refine k2_ ?_ | refine k3_ ?_ _)); exact BK309.out)) : gb309 ≠ gb308))
                 have n14_ := a0_ ((by rw [hg]; exact Nat.ne_of_gt (blk_lt (g := gb309) (o := .cells #[.bool false, .slice none 0 0] 29 (0, 0)) (by (with_reducible repeat (first | refine k1_ ?_ _ | refine k2_ ?_ | refine k3_ ?_ _)); exact BK309.out)) : gb308 ≠ gb309))
                 clear HO_285001
                 clear HO_290001
                 clear BK284
                 clear BK289
                 clear BK309
                 clear HB
                 have HO_285001 := n0_
                 have HO_290001 := n1_
                 have BK284 := n2_
                 have BK289 := n3_
                 have BK309 := n4_
                 have HB := n5_
                 have BK308 := n6_
                 have GW308 := n7_
                 have GE308 := n8_
                 have NB284_308 := n9_
                 have NB308_284 := n10_
                 have NB289_308 := n11_
                 have NB308_289 := n12_
                 have NB309_308 := n13_
                 have NB308_309 := n14_
                 clear n0_ n1_ n2_ n3_ n4_ n5_ n6_ n7_ n8_ n9_ n10_ n11_ n12_ n13_ n14_
                 clear hb hbox hg
                 refine hK.out _ _ ⟨(blk_cell BK284.out 0).trans rfl, (blk_cell BK284.out 1).trans rfl⟩ (fun hHeld => ?_)
                 clear hK K
                 refine norm_ (a' := ?_) ?_ ?_
                 rotate_left
                 ·
                  show Act.put _ (some 8) _ = _
                  simp only [Act.put, s1_, s2_, s3_, i64_w, i32_w]
                  rfl
                 exact norm_ (by first | (simp only [putAll, Act.put, s1_, s2_, s3_]; done) | (simp only [putAll, Act.put, s1_, s2_, s3_]; rfl)) (hJ8_9 (gb308, gb309) _ ⟨hHeld, (by (with_reducible repeat (first | apply v1_ | apply v2_ | apply v3_)); exact v4_ HO_285001.out (fun _ hk => ⟨hk.1.1, ⟨hk.1.2.1, ⟨hk.1.2.2.1, ⟨hk.2, hk.1.2.2.2⟩⟩⟩⟩)), (by (with_reducible repeat (first | apply v1_ | apply v2_ | apply v3_)); exact v4_ HO_290001.out (fun _ hk => ⟨hk.1.1, ⟨hk.1.2.1, ⟨hk.1.2.2.1, ⟨hk.2, hk.1.2.2.2⟩⟩⟩⟩)), (by (with_reducible repeat (first | refine k1_ ?_ _ | refine k2_ ?_ | refine k3_ ?_ _)); exact BK284.out), (by (with_reducible repeat (first | refine k1_ ?_ _ | refine k2_ ?_ | refine k3_ ?_ _)); exact BK289.out), (by (with_reducible repeat (first | refine k1_ ?_ _ | refine k2_ ?_ | refine k3_ ?_ _)); exact BK308.out), (by (with_reducible repeat (first | refine k1_ ?_ _ | refine k2_ ?_ | refine k3_ ?_ _)); exact BK309.out), GW308.out, GE308.out, NB284_308.out, NB308_284.out, NB289_308.out, NB308_289.out, NB309_308.out, NB308_309.out, GW309.out, GE309.out, NB284_309.out, NB309_284.out, NB289_309.out, NB309_289.out, (by repeat (first | (with_reducible first | exact HB.out | apply b1_ | apply b2_ | apply b3_ | refine b4_ ?_ GE284.out | refine b4_ ?_ GE289.out | refine b4_ ?_ GE309.out | refine b4_ ?_ GE308.out) | exact HB.out))⟩)
              ·
               skip
               rintro gb308 w34 ⟨hS_, h0_, h1_, h2_, h3_, h4_, h5_, h6_, h7_, h8_, h9_, h10_, h11_⟩
               have n0_ : Aside0 (Kd.V (Kd.int .u32) 96 w34 w.heap.size (fun k_ => (P0_1_ k_ ∨ w.heap.size ≤ k_) ∧ k_ ≠ gb284 ∧ k_ ≠ gb289 ∧ k_ ≠ gb308) (.slice A0_1 l0_1.length c0_1) l0_1) := ⟨h0_⟩
               have n1_ : Aside0 (Kd.V (Kd.int .u32) 96 w34 w.heap.size (fun k_ => (P0_1_ k_ ∨ w.heap.size ≤ k_) ∧ k_ ≠ gb284 ∧ k_ ≠ gb289 ∧ k_ ≠ gb308) (.slice Ao10 t286.length co10) t286) := ⟨h1_⟩
               have n2_ : Aside0 (w34.heap[gb284]? = some (.cells #[.bool true, .slice A0_1 l0_1.length c0_1] 29 (0, 0))) := ⟨h2_⟩
               have n3_ : Aside0 (w34.heap[gb289]? = some (.cells #[.bool t285, .slice Ao10 t286.length co10] 29 (0, 0))) := ⟨h3_⟩
               have n4_ : Aside0 (w34.heap[gb308]? = some (.cells #[.bool false, .slice none 0 0] 29 (0, 0))) := ⟨h4_⟩
               have n5_ : Aside0 (w.heap.size ≤ gb308) := ⟨h5_⟩
               have n6_ : Aside0 (w.heap.size ≤ gb308) := ⟨h6_⟩
               have n7_ : Aside0 (gb284 ≠ gb308) := ⟨h7_⟩
               have n8_ : Aside0 (gb308 ≠ gb284) := ⟨h8_⟩
               have n9_ : Aside0 (gb289 ≠ gb308) := ⟨h9_⟩
               have n10_ : Aside0 (gb308 ≠ gb289) := ⟨h10_⟩
               have n11_ : Aside0 (Below w.heap.size w w34) := ⟨h11_⟩
               clear HO_285001
               clear HO_290001
               clear BK284
               clear BK289
               clear HB
               clear h0_ h1_ h2_ h3_ h4_ h5_ h6_ h7_ h8_ h9_ h10_ h11_
               have HO_285001 := n0_
               have HO_290001 := n1_
               have BK284 := n2_
               have BK289 := n3_
               have BK308 := n4_
               have GW308 := n5_
               have GE308 := n6_
               have NB284_308 := n7_
               have NB308_284 := n8_
               have NB289_308 := n9_
               have NB308_289 := n10_
               have HB := n11_
               clear n0_ n1_ n2_ n3_ n4_ n5_ n6_ n7_ n8_ n9_ n10_ n11_
               have hHeld : w34.cell? ⟨gb284, 0, none⟩ = some (.bool true) ∧ w34.cell? ⟨gb284, 1, none⟩ = some (.slice A0_1 l0_1.length c0_1) := hS_
               refine norm_ (a' := ?_) ?_ ?_
               rotate_left
               ·
                simp only [putAll, Act.put, s1_, s2_, s3_]
                rfl
               refine two_ (i := 3) (j := 9) (Ni := some 34) (Nj := some 9) #[true, true, true, true, false, false, false, false, true, false, false, false] #[true, true, true, false, false, false, false, false, true, true, false, false] rfl rfl rfl rfl (two_of HT_.out (by kernel_rfl)) (by decide) (by decide) (fun K hK => ?_) (fun K hK => ?_)
               ·
                skip
                refine goes_ Try.func72 (by kernel_rfl) rfl #[.int .i64 (wrap64 (64 * a1))] (by rfl) rfl rfl (by (try simp only [List.map_toArray, List.map_cons, List.map_nil]); first | done | rfl | (simp only [List.length_drop, List.length_take]; rfl)) ?_
                with_reducible refine (spec_Two.calls kj3 (wrap64 (64 * a1)) t296 t297 _ A28.out).mono ?_
                rintro e w35 ⟨v298, rfl, ho0, hb⟩
                refine ⟨_, rfl, ?_⟩
                have n0_ := a0_ (Kd.V_below (by (with_reducible repeat (first | apply v1_ | apply v2_ | apply v3_)); exact HO_285001.out) hb)
                have n1_ := a0_ (Kd.V_below (by (with_reducible repeat (first | apply v1_ | apply v2_ | apply v3_)); exact HO_290001.out) hb)
                have n2_ := a0_ (Kd.V_lower (v4_ (ok' := fun k_ => (P0_1_ k_ ∨ w.heap.size ≤ k_) ∧ k_ ≠ gb284 ∧ k_ ≠ gb289 ∧ k_ ≠ gb308) ho0 (fun k_ hk_ => ⟨(.inr (Nat.le_trans (below_size (by repeat (first | (with_reducible first | exact HB.out | apply b1_ | apply b2_ | apply b3_ | refine b4_ ?_ GE284.out | refine b4_ ?_ GE289.out | refine b4_ ?_ GE308.out) | exact HB.out))) hk_)), (Kd.freshB (g := gb284) (o := .cells #[.bool true, .slice A0_1 l0_1.length c0_1] 29 (0, 0)) (by (with_reducible repeat (first | refine k1_ ?_ _ | refine k2_ ?_ | refine k3_ ?_ _)); exact BK284.out) k_ hk_), (Kd.freshB (g := gb289) (o := .cells #[.bool t285, .slice Ao10 t286.length co10] 29 (0, 0)) (by (with_reducible repeat (first | refine k1_ ?_ _ | refine k2_ ?_ | refine k3_ ?_ _)); exact BK289.out) k_ hk_), (Kd.freshB (g := gb308) (o := .cells #[.bool false, .slice none 0 0] 29 (0, 0)) (by (with_reducible repeat (first | refine k1_ ?_ _ | refine k2_ ?_ | refine k3_ ?_ _)); exact BK308.out) k_ hk_)⟩)) (below_size (by repeat (first | (with_reducible first | exact HB.out | apply b1_ | apply b2_ | apply b3_ | refine b4_ ?_ GE284.out | refine b4_ ?_ GE289.out | refine b4_ ?_ GE308.out) | exact HB.out))))
                have n3_ := a0_ (blk_below (g := gb284) (o := .cells #[.bool true, .slice A0_1 l0_1.length c0_1] 29 (0, 0)) (by (with_reducible repeat (first | refine k1_ ?_ _ | refine k2_ ?_ | refine k3_ ?_ _)); exact BK284.out) hb)
                have n4_ := a0_ (blk_below (g := gb289) (o := .cells #[.bool t285, .slice Ao10 t286.length co10] 29 (0, 0)) (by (with_reducible repeat (first | refine k1_ ?_ _ | refine k2_ ?_ | refine k3_ ?_ _)); exact BK289.out) hb)
                have n5_ := a0_ (blk_below (g := gb308) (o := .cells #[.bool false, .slice none 0 0] 29 (0, 0)) (by (with_reducible repeat (first | refine k1_ ?_ _ | refine k2_ ?_ | refine k3_ ?_ _)); exact BK308.out) hb)
                have n6_ := a0_ (below_step (by repeat (first | (with_reducible first | exact HB.out | apply b1_ | apply b2_ | apply b3_ | refine b4_ ?_ GE284.out | refine b4_ ?_ GE289.out | refine b4_ ?_ GE308.out) | exact HB.out)) hb)
                clear HO_285001
                clear HO_290001
                clear BK284
                clear BK289
                clear BK308
                clear HB
                have HO_285001 := n0_
                have HO_290001 := n1_
                have HO299 := n2_
                have BK284 := n3_
                have BK289 := n4_
                have BK308 := n5_
                have HB := n6_
                clear n0_ n1_ n2_ n3_ n4_ n5_ n6_
                (try clear hb)
                (try clear hb2)
                (try clear hk)
                (try clear hi)
                (try clear ho0)
                refine hK.out _ _ ⟨(blk_cell BK284.out 0).trans rfl, (blk_cell BK284.out 1).trans rfl⟩ (fun hHeld => ?_)
                clear hK K
                refine norm_ (a' := ?_) ?_ ?_
                rotate_left
                ·
                 show Act.put _ (some 34) _ = _
                 simp only [Act.put, s1_, s2_, s3_, i64_w, i32_w]
                 rfl
                exact norm_ (by first | (simp only [putAll, Act.put, s1_, s2_, s3_]; done) | (simp only [putAll, Act.put, s1_, s2_, s3_]; rfl)) (hJ3_8 (v298, gb308) _ ⟨hHeld, (by (with_reducible repeat (first | apply v1_ | apply v2_ | apply v3_)); exact HO299.out), (by (with_reducible repeat (first | apply v1_ | apply v2_ | apply v3_)); exact HO_285001.out), (by (with_reducible repeat (first | apply v1_ | apply v2_ | apply v3_)); exact HO_290001.out), (by (with_reducible repeat (first | refine k1_ ?_ _ | refine k2_ ?_ | refine k3_ ?_ _)); exact BK284.out), (by (with_reducible repeat (first | refine k1_ ?_ _ | refine k2_ ?_ | refine k3_ ?_ _)); exact BK289.out), (by (with_reducible repeat (first | refine k1_ ?_ _ | refine k2_ ?_ | refine k3_ ?_ _)); exact BK308.out), GW308.out, GE308.out, NB284_308.out, NB308_284.out, NB289_308.out, NB308_289.out, (by repeat (first | (with_reducible first | exact HB.out | apply b1_ | apply b2_ | apply b3_ | refine b4_ ?_ GE284.out | refine b4_ ?_ GE289.out | refine b4_ ?_ GE308.out) | exact HB.out))⟩)
               ·
                skip
                refine box_step ?hg (N := 9) ?hd (cs := #[.bool false, .slice none 0 0]) (t := 29) ?hr ?_; (case hd => rfl); (case hg => rfl); (case hr => first | (go_simp; done) | (go_simp; rfl))
                intro gb309 hg w35 hbox hb
                have n0_ := a0_ (Kd.V_below (Kd.V_elderB (by (with_reducible repeat (first | apply v1_ | apply v2_ | apply v3_)); exact HO_285001.out) gb309 (Nat.le_of_eq hg.symm)) hb)
                have n1_ := a0_ (Kd.V_below (Kd.V_elderB (by (with_reducible repeat (first | apply v1_ | apply v2_ | apply v3_)); exact HO_290001.out) gb309 (Nat.le_of_eq hg.symm)) hb)
                have n2_ := a0_ (blk_below (g := gb284) (o := .cells #[.bool true, .slice A0_1 l0_1.length c0_1] 29 (0, 0)) (by (with_reducible repeat (first | refine k1_ ?_ _ | refine k2_ ?_ | refine k3_ ?_ _)); exact BK284.out) hb)
                have n3_ := a0_ (blk_below (g := gb289) (o := .cells #[.bool t285, .slice Ao10 t286.length co10] 29 (0, 0)) (by (with_reducible repeat (first | refine k1_ ?_ _ | refine k2_ ?_ | refine k3_ ?_ _)); exact BK289.out) hb)
                have n4_ := a0_ (blk_below (g := gb308) (o := .cells #[.bool false, .slice none 0 0] 29 (0, 0)) (by (with_reducible repeat (first | refine k1_ ?_ _ | refine k2_ ?_ | refine k3_ ?_ _)); exact BK308.out) hb)
                have n5_ := a0_ (below_step (by repeat (first | (with_reducible first | exact HB.out | apply b1_ | apply b2_ | apply b3_ | refine b4_ ?_ GE284.out | refine b4_ ?_ GE289.out | refine b4_ ?_ GE308.out) | exact HB.out)) hb)
                have n6_ := a0_ (hbox)
                have n7_ := a0_ ((by rw [hg]; exact (below_size (by repeat (first | (with_reducible first | exact HB.out | apply b1_ | apply b2_ | apply b3_ | refine b4_ ?_ GE284.out | refine b4_ ?_ GE289.out | refine b4_ ?_ GE308.out) | exact HB.out))) : w.heap.size ≤ gb309))
                have n8_ := a0_ ((by rw [hg]; exact (below_size (by repeat (first | (with_reducible first | exact HB.out | apply b1_ | apply b2_ | apply b3_ | refine b4_ ?_ GE284.out | refine b4_ ?_ GE289.out | refine b4_ ?_ GE308.out) | exact HB.out))) : w.heap.size ≤ gb309))
                have n9_ := a0_ ((by rw [hg]; exact Nat.ne_of_lt (blk_lt (g := gb284) (o := .cells #[.bool true, .slice A0_1 l0_1.length c0_1] 29 (0, 0)) (by (with_reducible repeat (first | refine k1_ ?_ _ | refine k2_ ?_ | refine k3_ ?_ _)); exact BK284.out)) : gb284 ≠ gb309))
                have n10_ := a0_ ((by rw [hg]; exact Nat.ne_of_gt (blk_lt (g := gb284) (o := .cells #[.bool true, .slice A0_1 l0_1.length c0_1] 29 (0, 0)) (by (with_reducible repeat (first | refine k1_ ?_ _ | refine k2_ ?_ | refine k3_ ?_ _)); exact BK284.out)) : gb309 ≠ gb284))
                have n11_ := a0_ ((by rw [hg]; exact Nat.ne_of_lt (blk_lt (g := gb289) (o := .cells #[.bool t285, .slice Ao10 t286.length co10] 29 (0, 0)) (by (with_reducible repeat (first | refine k1_ ?_ _ | refine k2_ ?_ | refine k3_ ?_ _)); exact BK289.out)) : gb289 ≠ gb309))
                have n12_ := a0_ ((by rw [hg]; exact Nat.ne_of_gt (blk_lt (g := gb289) (o := .cells #[.bool t285, .slice Ao10 t286.length co10] 29 (0, 0)) (by (with_reducible repeat (first | refine k1_ ?_ _ | refine k2_ ?_ | refine k3_ ?_ _)); exact BK289.out)) : gb309 ≠ gb289))
                have n13_ := a0_ ((by rw [hg]; exact Nat.ne_of_lt (blk_lt (g := gb308) (o := .cells #[.bool false, .slice none 0 0] 29 (0, 0)) (by (with_reducible repeat (first | refine k1_ ?_ _ | refine k2_ ?_ | refine k3_ ?_ _)); exact BK308.out)) : gb308 ≠ gb309))
                have n14_ := a0_ ((by rw [hg]; exact Nat.ne_of_gt (blk_lt (g := gb308) (o := .cells #[.bool false, .slice none 0 0] 29 (0, 0)) (by (with_reducible repeat (first | refine k1_ ?_ _ | refine k2_ ?_ | refine k3_ ?_ _)); exact BK308.out)) : gb309 ≠ gb308))
                clear HO_285001
                clear HO_290001
                clear BK284
                clear BK289
                clear BK308
                clear HB
                have HO_285001 := n0_
                have HO_290001 := n1_
                have BK284 := n2_
                have BK289 := n3_
                have BK308 := n4_
                have HB := n5_
                have BK309 := n6_
                have GW309 := n7_
                have GE309 := n8_
                have NB284_309 := n9_
                have NB309_284 := n10_
                have NB289_309 := n11_
                have NB309_289 := n12_
                have NB308_309 := n13_
                have NB309_308 := n14_
                clear n0_ n1_ n2_ n3_ n4_ n5_ n6_ n7_ n8_ n9_ n10_ n11_ n12_ n13_ n14_
                clear hb hbox hg
                refine hK.out _ _ ⟨(blk_cell BK284.out 0).trans rfl, (blk_cell BK284.out 1).trans rfl⟩ (fun hHeld => ?_)
                clear hK K
                refine norm_ (a' := ?_) ?_ ?_
                rotate_left
                ·
                 show Act.put _ (some 9) _ = _
                 simp only [Act.put, s1_, s2_, s3_, i64_w, i32_w]
                 rfl
                exact norm_ (by first | (simp only [putAll, Act.put, s1_, s2_, s3_]; done) | (simp only [putAll, Act.put, s1_, s2_, s3_]; rfl)) (hJ8_9 (gb308, gb309) _ ⟨hHeld, (by (with_reducible repeat (first | apply v1_ | apply v2_ | apply v3_)); exact v4_ HO_285001.out (fun _ hk => ⟨hk.1.1, ⟨hk.1.2.1, ⟨hk.1.2.2.1, ⟨hk.1.2.2.2, hk.2⟩⟩⟩⟩)), (by (with_reducible repeat (first | apply v1_ | apply v2_ | apply v3_)); exact v4_ HO_290001.out (fun _ hk => ⟨hk.1.1, ⟨hk.1.2.1, ⟨hk.1.2.2.1, ⟨hk.1.2.2.2, hk.2⟩⟩⟩⟩)), (by (with_reducible repeat (first | refine k1_ ?_ _ | refine k2_ ?_ | refine k3_ ?_ _)); exact BK284.out), (by (with_reducible repeat (first | refine k1_ ?_ _ | refine k2_ ?_ | refine k3_ ?_ _)); exact BK289.out), (by (with_reducible repeat (first | refine k1_ ?_ _ | refine k2_ ?_ | refine k3_ ?_ _)); exact BK308.out), (by (with_reducible repeat (first | refine k1_ ?_ _ | refine k2_ ?_ | refine k3_ ?_ _)); exact BK309.out), GW308.out, GE308.out, NB284_308.out, NB308_284.out, NB289_308.out, NB308_289.out, NB309_308.out, NB308_309.out, GW309.out, GE309.out, NB284_309.out, NB309_284.out, NB289_309.out, NB309_289.out, (by repeat (first | (with_reducible first | exact HB.out | apply b1_ | apply b2_ | apply b3_ | refine b4_ ?_ GE284.out | refine b4_ ?_ GE289.out | refine b4_ ?_ GE308.out | refine b4_ ?_ GE309.out) | exact HB.out))⟩)
             ·
              skip
              rintro v298 w34 ⟨hS_, h0_, h1_, h2_, h3_, h4_, h5_⟩
              have n0_ : Aside0 (Kd.V (Kd.int .u32) 96 w34 w.heap.size (fun k_ => (P0_1_ k_ ∨ w.heap.size ≤ k_) ∧ k_ ≠ gb284 ∧ k_ ≠ gb289) v298 t297) := ⟨h0_⟩
              have n1_ : Aside0 (Kd.V (Kd.int .u32) 96 w34 w.heap.size (fun k_ => (P0_1_ k_ ∨ w.heap.size ≤ k_) ∧ k_ ≠ gb284 ∧ k_ ≠ gb289) (.slice A0_1 l0_1.length c0_1) l0_1) := ⟨h1_⟩
              have n2_ : Aside0 (Kd.V (Kd.int .u32) 96 w34 w.heap.size (fun k_ => (P0_1_ k_ ∨ w.heap.size ≤ k_) ∧ k_ ≠ gb284 ∧ k_ ≠ gb289) (.slice Ao10 t286.length co10) t286) := ⟨h2_⟩
              have n3_ : Aside0 (w34.heap[gb284]? = some (.cells #[.bool true, .slice A0_1 l0_1.length c0_1] 29 (0, 0))) := ⟨h3_⟩
              have n4_ : Aside0 (w34.heap[gb289]? = some (.cells #[.bool t285, .slice Ao10 t286.length co10] 29 (0, 0))) := ⟨h4_⟩
              have n5_ : Aside0 (Below w.heap.size w w34) := ⟨h5_⟩
              clear HO_285001
              clear HO_290001
              clear BK284
              clear BK289
              clear HB
              clear h0_ h1_ h2_ h3_ h4_ h5_
              have HO299 := n0_
              have HO_285001 := n1_
              have HO_290001 := n2_
              have BK284 := n3_
              have BK289 := n4_
              have HB := n5_
              clear n0_ n1_ n2_ n3_ n4_ n5_
              have hHeld : w34.cell? ⟨gb284, 0, none⟩ = some (.bool true) ∧ w34.cell? ⟨gb284, 1, none⟩ = some (.slice A0_1 l0_1.length c0_1) := hS_
              obtain ⟨Ao35, co35, eo35⟩ := Kd.V_slice HO299.out
              (first | subst eo35 | (injection eo35 with f1_ f2_ f3_; have f4_ := f1_.symm; have f5_ := f3_.symm; clear f1_ f2_ f3_; subst f4_; subst f5_))
              refine norm_ (a' := ?_) ?_ ?_
              rotate_left
              ·
               simp only [putAll, Act.put, s1_, s2_, s3_]
               rfl
              refine three_ (i := 4) (j := 8) (k := 9) (Ni := some 35) (Nj := some 8) (Nk := some 9) #[true, true, true, true, true, false, false, false, false, false, false, false] #[true, true, true, true, false, false, false, false, true, false, false, false] #[true, true, true, true, false, false, false, false, false, true, false, false] rfl rfl rfl rfl rfl rfl (three_of HT_.out (by kernel_rfl)) (by decide) (by decide) (by decide) (fun K hK => ?_) (fun K hK => ?_) (fun K hK => ?_)
              ·
               skip
               refine goes_ Try.func11 (by kernel_rfl) rfl #[.agg #[.bool true, .slice A0_1 l0_1.length c0_1], .agg #[.bool t296, .slice Ao35 t297.length co35]] (by rfl) rfl rfl (by (try simp only [List.map_toArray, List.map_cons, List.map_nil]); first | done | rfl | (simp only [List.length_drop, List.length_take]; rfl)) ?_
               with_reducible refine (spec_WideDiv.calls kj3 true _ _ l0_1 t296 _ _ t297 t300 t301 t304 t305 _ ?side1 ?side2 ?side3 ?side4 A29.out).mono ?_
               (case side1 => repeat (first | exact (Kd.V_reads' HO_285001.out).2.2 | (with_reducible refine Kd.C_alloc ?_ _) | (with_reducible refine Kd.C_drewN ?_ _) | (with_reducible refine Kd.C_drew ?_)))
               (case side2 => exact (Kd.V_reads' HO_285001.out).2.1)
               (case side3 => repeat (first | exact (Kd.V_reads' HO299.out).2.2 | (with_reducible refine Kd.C_alloc ?_ _) | (with_reducible refine Kd.C_drewN ?_ _) | (with_reducible refine Kd.C_drew ?_)))
               (case side4 => exact (Kd.V_reads' HO299.out).2.1)
               rintro e w36 ⟨v302, v306, rfl, ho0, ho1, hb⟩
               refine ⟨_, rfl, ?_⟩
               have n0_ := a0_ (Kd.V_below (by (with_reducible repeat (first | apply v1_ | apply v2_ | apply v3_)); exact HO_285001.out) hb)
               have n1_ := a0_ (Kd.V_below (by (with_reducible repeat (first | apply v1_ | apply v2_ | apply v3_)); exact HO_290001.out) hb)
               have n2_ := a0_ (Kd.V_below (by (with_reducible repeat (first | apply v1_ | apply v2_ | apply v3_)); exact HO299.out) hb)
               have n3_ := a0_ (Kd.V_lower (v4_ (ok' := fun k_ => (P0_1_ k_ ∨ w.heap.size ≤ k_) ∧ k_ ≠ gb284 ∧ k_ ≠ gb289) ho0 (fun k_ hk_ => ⟨(.inr (Nat.le_trans (below_size (by repeat (first | (with_reducible first | exact HB.out | apply b1_ | apply b2_ | apply b3_ | refine b4_ ?_ GE284.out | refine b4_ ?_ GE289.out) | exact HB.out))) hk_)), (Kd.freshB (g := gb284) (o := .cells #[.bool true, .slice A0_1 l0_1.length c0_1] 29 (0, 0)) (by (with_reducible repeat (first | refine k1_ ?_ _ | refine k2_ ?_ | refine k3_ ?_ _)); exact BK284.out) k_ hk_), (Kd.freshB (g := gb289) (o := .cells #[.bool t285, .slice Ao10 t286.length co10] 29 (0, 0)) (by (with_reducible repeat (first | refine k1_ ?_ _ | refine k2_ ?_ | refine k3_ ?_ _)); exact BK289.out) k_ hk_)⟩)) (below_size (by repeat (first | (with_reducible first | exact HB.out | apply b1_ | apply b2_ | apply b3_ | refine b4_ ?_ GE284.out | refine b4_ ?_ GE289.out) | exact HB.out))))
               have n4_ := a0_ (Kd.V_lower (v4_ (ok' := fun k_ => (P0_1_ k_ ∨ w.heap.size ≤ k_) ∧ k_ ≠ gb284 ∧ k_ ≠ gb289) ho1 (fun k_ hk_ => ⟨(.inr (Nat.le_trans (below_size (by repeat (first | (with_reducible first | exact HB.out | apply b1_ | apply b2_ | apply b3_ | refine b4_ ?_ GE284.out | refine b4_ ?_ GE289.out) | exact HB.out))) hk_)), (Kd.freshB (g := gb284) (o := .cells #[.bool true, .slice A0_1 l0_1.length c0_1] 29 (0, 0)) (by (with_reducible repeat (first | refine k1_ ?_ _ | refine k2_ ?_ | refine k3_ ?_ _)); exact BK284.out) k_ hk_), (Kd.freshB (g := gb289) (o := .cells #[.bool t285, .slice Ao10 t286.length co10] 29 (0, 0)) (by (with_reducible repeat (first | refine k1_ ?_ _ | refine k2_ ?_ | refine k3_ ?_ _)); exact BK289.out) k_ hk_)⟩)) (below_size (by repeat (first | (with_reducible first | exact HB.out | apply b1_ | apply b2_ | apply b3_ | refine b4_ ?_ GE284.out | refine b4_ ?_ GE289.out) | exact HB.out))))
               have n5_ := a0_ (blk_below (g := gb284) (o := .cells #[.bool true, .slice A0_1 l0_1.length c0_1] 29 (0, 0)) (by (with_reducible repeat (first | refine k1_ ?_ _ | refine k2_ ?_ | refine k3_ ?_ _)); exact BK284.out) hb)
               have n6_ := a0_ (blk_below (g := gb289) (o := .cells #[.bool t285, .slice Ao10 t286.length co10] 29 (0, 0)) (by (with_reducible repeat (first | refine k1_ ?_ _ | refine k2_ ?_ | refine k3_ ?_ _)); exact BK289.out) hb)
               have n7_ := a0_ (below_step (by repeat (first | (with_reducible first | exact HB.out | apply b1_ | apply b2_ | apply b3_ | refine b4_ ?_ GE284.out | refine b4_ ?_ GE289.out) | exact HB.out)) hb)
               clear HO_285001
               clear HO_290001
               clear HO299
               clear BK284
               clear BK289
               clear HB
               have HO_285001 := n0_
               have HO_290001 := n1_
               have HO299 := n2_
               have HO303 := n3_
               have HO307 := n4_
               have BK284 := n5_
               have BK289 := n6_
               have HB := n7_
               clear n0_ n1_ n2_ n3_ n4_ n5_ n6_ n7_
               (try clear hb)
               (try clear hb2)
               (try clear hk)
               (try clear hi)
               (try clear ho0)
               (try clear ho1)
               refine hK.out _ _ ⟨(blk_cell BK284.out 0).trans rfl, (blk_cell BK284.out 1).trans rfl⟩ (fun hHeld => ?_)
               clear hK K
               refine norm_ (a' := ?_) ?_ ?_
               rotate_left
               ·
                show Act.put _ (some 35) _ = _
                simp only [Act.put, s1_, s2_, s3_, i64_w, i32_w]
                rfl
               refine pure_ (i := 5) (N := some 30) (v := ?_) (a' := ?_) #[true, true, true, true, true, true, false, false, false, false, false, false] rfl rfl (any_of HT_.out (by kernel_rfl)) (fun _ _ _ h => h) (Or.inl ⟨by rfl, ?_⟩) ?_ ?_
               rotate_left
               ·
                intro w'
                go_simp
                with_reducible rfl
               rotate_left
               ·
                simp only [Act.put, s1_, s2_, s3_, i64_w, i32_w]
                rfl
               refine pure_ (i := 6) (N := some 36) (v := ?_) (a' := ?_) #[true, true, true, true, true, true, true, false, false, false, false, false] rfl rfl (any_of HT_.out (by kernel_rfl)) (fun _ _ _ h => h) (Or.inl ⟨by rfl, ?_⟩) ?_ ?_
               rotate_left
               ·
                intro w'
                go_simp
                with_reducible rfl
               rotate_left
               ·
                simp only [Act.put, s1_, s2_, s3_, i64_w, i32_w]
                rfl
               refine pure_ (i := 7) (N := some 37) (v := ?_) (a' := ?_) #[true, true, true, true, true, true, true, true, false, false, false, false] rfl rfl (any_of HT_.out (by kernel_rfl)) (fun _ _ _ h => h) (Or.inl ⟨by rfl, ?_⟩) ?_ ?_
               rotate_left
               ·
                intro w'
                go_simp
                with_reducible rfl
               rotate_left
               ·
                simp only [Act.put, s1_, s2_, s3_, i64_w, i32_w]
                rfl
               exact norm_ (by first | (simp only [putAll, Act.put, s1_, s2_, s3_]; done) | (simp only [putAll, Act.put, s1_, s2_, s3_]; rfl)) (hJ3_4 (.slice Ao35 t297.length co35, v302, v306) _ ⟨hHeld, (by (with_reducible repeat (first | apply v1_ | apply v2_ | apply v3_)); exact HO299.out), (by (with_reducible repeat (first | apply v1_ | apply v2_ | apply v3_)); exact HO303.out), (by (with_reducible repeat (first | apply v1_ | apply v2_ | apply v3_)); exact HO307.out), (by (with_reducible repeat (first | apply v1_ | apply v2_ | apply v3_)); exact HO_285001.out), (by (with_reducible repeat (first | apply v1_ | apply v2_ | apply v3_)); exact HO_290001.out), (by (with_reducible repeat (first | refine k1_ ?_ _ | refine k2_ ?_ | refine k3_ ?_ _)); exact BK284.out), (by (with_reducible repeat (first | refine k1_ ?_ _ | refine k2_ ?_ | refine k3_ ?_ _)); exact BK289.out), (by repeat (first | (with_reducible first | exact HB.out | apply b1_ | apply b2_ | apply b3_ | refine b4_ ?_ GE284.out | refine b4_ ?_ GE289.out) | exact HB.out))⟩)
              ·
               skip
               refine box_step ?hg (N := 8) ?hd (cs := #[.bool false, .slice none 0 0]) (t := 29) ?hr ?_; (case hd => rfl); (case hg => rfl); (case hr => first | (go_simp; done) | (go_simp; rfl))
               intro gb308 hg w35 hbox hb
               have n0_ := a0_ (Kd.V_below (Kd.V_elderB (by (with_reducible repeat (first | apply v1_ | apply v2_ | apply v3_)); exact HO_285001.out) gb308 (Nat.le_of_eq hg.symm)) hb)
               have n1_ := a0_ (Kd.V_below (Kd.V_elderB (by (with_reducible repeat (first | apply v1_ | apply v2_ | apply v3_)); exact HO_290001.out) gb308 (Nat.le_of_eq hg.symm)) hb)
               have n2_ := a0_ (Kd.V_below (Kd.V_elderB (by (with_reducible repeat (first | apply v1_ | apply v2_ | apply v3_)); exact HO299.out) gb308 (Nat.le_of_eq hg.symm)) hb)
               have n3_ := a0_ (blk_below (g := gb284) (o := .cells #[.bool true, .slice A0_1 l0_1.length c0_1] 29 (0, 0)) (by (with_reducible repeat (first | refine k1_ ?_ _ | refine k2_ ?_ | refine k3_ ?_ _)); exact BK284.out) hb)
               have n4_ := a0_ (blk_below (g := gb289) (o := .cells #[.bool t285, .slice Ao10 t286.length co10] 29 (0, 0)) (by (with_reducible repeat (first | refine k1_ ?_ _ | refine k2_ ?_ | refine k3_ ?_ _)); exact BK289.out) hb)
               have n5_ := a0_ (below_step (by repeat (first | (with_reducible first | exact HB.out | apply b1_ | apply b2_ | apply b3_ | refine b4_ ?_ GE284.out | refine b4_ ?_ GE289.out) | exact HB.out)) hb)
               have n6_ := a0_ (hbox)
               have n7_ := a0_ ((by rw [hg]; exact (below_size (by repeat (first | (with_reducible first | exact HB.out | apply b1_ | apply b2_ | apply b3_ | refine b4_ ?_ GE284.out | refine b4_ ?_ GE289.out) | exact HB.out))) : w.heap.size ≤ gb308))
               have n8_ := a0_ ((by rw [hg]; exact (below_size (by repeat (first | (with_reducible first | exact HB.out | apply b1_ | apply b2_ | apply b3_ | refine b4_ ?_ GE284.out | refine b4_ ?_ GE289.out) | exact HB.out))) : w.heap.size ≤ gb308))
               have n9_ := a0_ ((by rw [hg]; exact Nat.ne_of_lt (blk_lt (g := gb284) (o := .cells #[.bool true, .slice A0_1 l0_1.length c0_1] 29 (0, 0)) (by (with_reducible repeat (first | refine k1_ ?_ _ | refine k2_ ?_ | refine k3_ ?_ _)); exact BK284.out)) : gb284 ≠ gb308))
               have n10_ := a0_ ((by rw [hg]; exact Nat.ne_of_gt (blk_lt (g := gb284) (o := .cells #[.bool true, .slice A0_1 l0_1.length c0_1] 29 (0, 0)) (by (with_reducible repeat (first | refine k1_ ?_ _ | refine k2_ ?_ | refine k3_ ?_ _)); exact BK284.out)) : gb308 ≠ gb284))
               have n11_ := a0_ ((by rw [hg]; exact Nat.ne_of_lt (blk_lt (g := gb289) (o := .cells #[.bool t285, .slice Ao10 t286.length co10] 29 (0, 0)) (by (with_reducible repeat (first | refine k1_ ?_ _ | refine k2_ ?_ | refine k3_ ?_ _)); exact BK289.out)) : gb289 ≠ gb308))
               have n12_ := a0_ ((by rw [hg]; exact Nat.ne_of_gt (blk_lt (g := gb289) (o := .cells #[.bool t285, .slice Ao10 t286.length co10] 29 (0, 0)) (by (with_reducible repeat (first | refine k1_ ?_ _ | refine k2_ ?_ | refine k3_ ?_ _)); exact BK289.out)) : gb308 ≠ gb289))
               clear HO_285001
               clear HO_290001
               clear HO299
               clear BK284
               clear BK289
               clear HB
               have HO_285001 := n0_
               have HO_290001 := n1_
               have HO299 := n2_
               have BK284 := n3_
               have BK289 := n4_
               have HB := n5_
               have BK308 := n6_
               have GW308 := n7_
               have GE308 := n8_
               have NB284_308 := n9_
               have NB308_284 := n10_
               have NB289_308 := n11_
               have NB308_289 := n12_
               clear n0_ n1_ n2_ n3_ n4_ n5_ n6_ n7_ n8_ n9_ n10_ n11_ n12_
               clear hb hbox hg
               refine hK.out _ _ ⟨(blk_cell BK284.out 0).trans rfl, (blk_cell BK284.out 1).trans rfl⟩ (fun hHeld => ?_)
               clear hK K
               refine norm_ (a' := ?_) ?_ ?_
               rotate_left
               ·
                show Act.put _ (some 8) _ = _
                simp only [Act.put, s1_, s2_, s3_, i64_w, i32_w]
                rfl
               exact norm_ (by first | (simp only [putAll, Act.put, s1_, s2_, s3_]; done) | (simp only [putAll, Act.put, s1_, s2_, s3_]; rfl)) (hJ3_8 ((.slice Ao35 t297.length co35), gb308) _ ⟨hHeld, (by (with_reducible repeat (first | apply v1_ | apply v2_ | apply v3_)); exact v4_ HO299.out (fun _ hk => ⟨hk.1.1, ⟨hk.1.2.1, ⟨hk.1.2.2, hk.2⟩⟩⟩)), (by (with_reducible repeat (first | apply v1_ | apply v2_ | apply v3_)); exact v4_ HO_285001.out (fun _ hk => ⟨hk.1.1, ⟨hk.1.2.1, ⟨hk.1.2.2, hk.2⟩⟩⟩)), (by (with_reducible repeat (first | apply v1_ | apply v2_ | apply v3_)); exact v4_ HO_290001.out (fun _ hk => ⟨hk.1.1, ⟨hk.1.2.1, ⟨hk.1.2.2, hk.2⟩⟩⟩)), (by (with_reducible repeat (first | refine k1_ ?_ _ | refine k2_ ?_ | refine k3_ ?_ _)); exact BK284.out), (by (with_reducible repeat (first | refine k1_ ?_ _ | refine k2_ ?_ | refine k3_ ?_ _)); exact BK289.out), (by (with_reducible repeat (first | refine k1_ ?_ _ | refine k2_ ?_ | refine k3_ ?_ _)); exact BK308.out), GW308.out, GE308.out, NB284_308.out, NB308_284.out, NB289_308.out, NB308_289.out, (by repeat (first | (with_reducible first | exact HB.out | apply b1_ | apply b2_ | apply b3_ | refine b4_ ?_ GE284.out | refine b4_ ?_ GE289.out | refine b4_ ?_ GE308.out) | exact HB.out))⟩)
              ·
               skip
               refine box_step ?hg (N := 9) ?hd (cs := #[.bool false, .slice none 0 0]) (t := 29) ?hr ?_; (case hd => rfl); (case hg => rfl); (case hr => first | (go_simp; done) | (go_simp; rfl))
               intro gb309 hg w35 hbox hb
               have n0_ := a0_ (Kd.V_below (Kd.V_elderB (by (with_reducible repeat (first | apply v1_ | apply v2_ | apply v3_)); exact HO_285001.out) gb309 (Nat.le_of_eq hg.symm)) hb)
               have n1_ := a0_ (Kd.V_below (Kd.V_elderB (by (with_reducible repeat (first | apply v1_ | apply v2_ | apply v3_)); exact HO_290001.out) gb309 (Nat.le_of_eq hg.symm)) hb)
               have n2_ := a0_ (Kd.V_below (Kd.V_elderB (by (with_reducible repeat (first | apply v1_ | apply v2_ | apply v3_)); exact HO299.out) gb309 (Nat.le_of_eq hg.symm)) hb)
               have n3_ := a0_ (blk_below (g := gb284) (o := .cells #[.bool true, .slice A0_1 l0_1.length c0_1] 29 (0, 0)) (by (with_reducible repeat (first | refine k1_ ?_ _ | refine k2_ ?_ | refine k3_ ?_ _)); exact BK284.out) hb)
               have n4_ := a0_ (blk_below (g := gb289) (o := .cells #[.bool t285, .slice Ao10 t286.length co10] 29 (0, 0)) (by (with_reducible repeat (first | refine k1_ ?_ _ | refine k2_ ?_ | refine k3_ ?_ _)); exact BK289.out) hb)
               have n5_ := a0_ (below_step (by repeat (first | (with_reducible first | exact HB.out | apply b1_ | apply b2_ | apply b3_ | refine b4_ ?_ GE284.out | refine b4_ ?_ GE289.out) | exact HB.out)) hb)
               have n6_ := a0_ (hbox)
               have n7_ := a0_ ((by rw [hg]; exact (below_size (by repeat (first | (with_reducible first | exact HB.out | apply b1_ | apply b2_ | apply b3_ | refine b4_ ?_ GE284.out | refine b4_ ?_ GE289.out) | exact HB.out))) : w.heap.size ≤ gb309))
               have n8_ := a0_ ((by rw [hg]; exact (below_size (by repeat (first | (with_reducible first | exact HB.out | apply b1_ | apply b2_ | apply b3_ | refine b4_ ?_ GE284.out | refine b4_ ?_ GE289.out) | exact HB.out))) : w.heap.size ≤ gb309))
               have n9_ := a0_ ((by rw [hg]; exact Nat.ne_of_lt (blk_lt (g := gb284) (o := .cells #[.bool true, .slice A0_1 l0_1.length c0_1] 29 (0, 0)) (by (with_reducible repeat (first | refine k1_ ?_ _ | refine k2_ ?_ | refine k3_ ?_ _)); exact BK284.out)) : gb284 ≠ gb309))
               have n10_ := a0_ ((by rw [hg]; exact Nat.ne_of_gt (blk_lt (g := gb284) (o := .cells #[.bool true, .slice A0_1 l0_1.length c0_1] 29 (0, 0)) (by (with_reducible repeat (first | refine k1_ ?_ _ | refine k2_ ?_ | refine k3_ ?_ _)); exact BK284.out)) : gb309 ≠ gb284))
               have n11_ := a0_ ((by rw [hg]; exact Nat.ne_of_lt (blk_lt (g := gb289) (o := .cells #[.bool t285, .slice Ao10 t286.length co10] 29 (0, 0)) (by (with_reducible repeat (first | refine k1_ ?_ _ | refine k2_ ?_ | refine k3_ ?_ _)); exact BK289.out)) : gb289 ≠ gb309))
               have n12_ := a0_ ((by rw [hg]; exact Nat.ne_of_gt (blk_lt (g := gb289) (o := .cells #[.bool t285, .slice Ao10 t286.length co10] 29 (0, 0)) (by (with_reducible repeat (first | refine k1_ ?_ _ | refine k2_ ?_ | refine k3_ ?_ _)); exact BK289.out)) : gb309 ≠ gb289))
               clear HO_285001
               clear HO_290001
               clear HO299
               clear BK284
               clear BK289
               clear HB
               have HO_285001 := n0_
               have HO_290001 := n1_
               have HO299 := n2_
               have BK284 := n3_
               have BK289 := n4_
               have HB := n5_
               have BK309 := n6_
               have GW309 := n7_
               have GE309 := n8_
               have NB284_309 := n9_
               have NB309_284 := n10_
               have NB289_309 := n11_
               have NB309_289 := n12_
               clear n0_ n1_ n2_ n3_ n4_ n5_ n6_ n7_ n8_ n9_ n10_ n11_ n12_
               clear hb hbox hg
               refine hK.out _ _ ⟨(blk_cell BK284.out 0).trans rfl, (blk_cell BK284.out 1).trans rfl⟩ (fun hHeld => ?_)
               clear hK K
               refine norm_ (a' := ?_) ?_ ?_
               rotate_left
               ·
                show Act.put _ (some 9) _ = _
                simp only [Act.put, s1_, s2_, s3_, i64_w, i32_w]
                rfl
               exact norm_ (by first | (simp only [putAll, Act.put, s1_, s2_, s3_]; done) | (simp only [putAll, Act.put, s1_, s2_, s3_]; rfl)) (hJ3_9 ((.slice Ao35 t297.length co35), gb309) _ ⟨hHeld, (by (with_reducible repeat (first | apply v1_ | apply v2_ | apply v3_)); exact v4_ HO299.out (fun _ hk => ⟨hk.1.1, ⟨hk.1.2.1, ⟨hk.1.2.2, hk.2⟩⟩⟩)), (by (with_reducible repeat (first | apply v1_ | apply v2_ | apply v3_)); exact v4_ HO_285001.out (fun _ hk => ⟨hk.1.1, ⟨hk.1.2.1, ⟨hk.1.2.2, hk.2⟩⟩⟩)), (by (with_reducible repeat (first | apply v1_ | apply v2_ | apply v3_)); exact v4_ HO_290001.out (fun _ hk => ⟨hk.1.1, ⟨hk.1.2.1, ⟨hk.1.2.2, hk.2⟩⟩⟩)), (by (with_reducible repeat (first | refine k1_ ?_ _ | refine k2_ ?_ | refine k3_ ?_ _)); exact BK284.out), (by (with_reducible repeat (first | refine k1_ ?_ _ | refine k2_ ?_ | refine k3_ ?_ _)); exact BK289.out), (by (with_reducible repeat (first | refine k1_ ?_ _ | refine k2_ ?_ | refine k3_ ?_ _)); exact BK309.out), GW309.out, GE309.out, NB284_309.out, NB309_284.out, NB289_309.out, NB309_289.out, (by repeat (first | (with_reducible first | exact HB.out | apply b1_ | apply b2_ | apply b3_ | refine b4_ ?_ GE284.out | refine b4_ ?_ GE289.out | refine b4_ ?_ GE309.out) | exact HB.out))⟩)
            ·
             skip
             rintro ⟨gb308, gb309⟩ w35 ⟨hS_, h0_, h1_, h2_, h3_, h4_, h5_, h6_, h7_, h8_, h9_, h10_, h11_, h12_, h13_, h14_, h15_, h16_, h17_, h18_, h19_, h20_⟩
             have n0_ : Aside0 (Kd.V (Kd.int .u32) 96 w35 w.heap.size (fun k_ => (P0_1_ k_ ∨ w.heap.size ≤ k_) ∧ k_ ≠ gb284 ∧ k_ ≠ gb289 ∧ k_ ≠ gb308 ∧ k_ ≠ gb309) (.slice A0_1 l0_1.length c0_1) l0_1) := ⟨h0_⟩
             have n1_ : Aside0 (Kd.V (Kd.int .u32) 96 w35 w.heap.size (fun k_ => (P0_1_ k_ ∨ w.heap.size ≤ k_) ∧ k_ ≠ gb284 ∧ k_ ≠ gb289 ∧ k_ ≠ gb308 ∧ k_ ≠ gb309) (.slice Ao10 t286.length co10) t286) := ⟨h1_⟩
             have n2_ : Aside0 (w35.heap[gb284]? = some (.cells #[.bool true, .slice A0_1 l0_1.length c0_1] 29 (0, 0))) := ⟨h2_⟩
             have n3_ : Aside0 (w35.heap[gb289]? = some (.cells #[.bool t285, .slice Ao10 t286.length co10] 29 (0, 0))) := ⟨h3_⟩
             have n4_ : Aside0 (w35.heap[gb308]? = some (.cells #[.bool false, .slice none 0 0] 29 (0, 0))) := ⟨h4_⟩
             have n5_ : Aside0 (w35.heap[gb309]? = some (.cells #[.bool false, .slice none 0 0] 29 (0, 0))) := ⟨h5_⟩
             have n6_ : Aside0 (w.heap.size ≤ gb308) := ⟨h6_⟩
             have n7_ : Aside0 (w.heap.size ≤ gb308) := ⟨h7_⟩
             have n8_ : Aside0 (gb284 ≠ gb308) := ⟨h8_⟩
             have n9_ : Aside0 (gb308 ≠ gb284) := ⟨h9_⟩
             have n10_ : Aside0 (gb289 ≠ gb308) := ⟨h10_⟩
             have n11_ : Aside0 (gb308 ≠ gb289) := ⟨h11_⟩
             have n12_ : Aside0 (gb309 ≠ gb308) := ⟨h12_⟩
             have n13_ : Aside0 (gb308 ≠ gb309) := ⟨h13_⟩
             have n14_ : Aside0 (w.heap.size ≤ gb309) := ⟨h14_⟩
             have n15_ : Aside0 (w.heap.size ≤ gb309) := ⟨h15_⟩
             have n16_ : Aside0 (gb284 ≠ gb309) := ⟨h16_⟩
             have n17_ : Aside0 (gb309 ≠ gb284) := ⟨h17_⟩
             have n18_ : Aside0 (gb289 ≠ gb309) := ⟨h18_⟩
             have n19_ : Aside0 (gb309 ≠ gb289) := ⟨h19_⟩
             have n20_ : Aside0 (Below w.heap.size w w35) := ⟨h20_⟩
             clear HO_285001
             clear HO_290001
             clear BK284
             clear BK289
             clear HB
             clear h0_ h1_ h2_ h3_ h4_ h5_ h6_ h7_ h8_ h9_ h10_ h11_ h12_ h13_ h14_ h15_ h16_ h17_ h18_ h19_ h20_
             have HO_285001 := n0_
             have HO_290001 := n1_
             have BK284 := n2_
             have BK289 := n3_
             have BK308 := n4_
             have BK309 := n5_
             have GW308 := n6_
             have GE308 := n7_
             have NB284_308 := n8_
             have NB308_284 := n9_
             have NB289_308 := n10_
             have NB308_289 := n11_
             have NB309_308 := n12_
             have NB308_309 := n13_
             have GW309 := n14_
             have GE309 := n15_
             have NB284_309 := n16_
             have NB309_284 := n17_
             have NB289_309 := n18_
             have NB309_289 := n19_
             have HB := n20_
             clear n0_ n1_ n2_ n3_ n4_ n5_ n6_ n7_ n8_ n9_ n10_ n11_ n12_ n13_ n14_ n15_ n16_ n17_ n18_ n19_ n20_
             have hHeld : w35.cell? ⟨gb284, 0, none⟩ = some (.bool true) ∧ w35.cell? ⟨gb284, 1, none⟩ = some (.slice A0_1 l0_1.length c0_1) := hS_
             refine norm_ (a' := ?_) ?_ ?_
             rotate_left
             ·
              simp only [putAll, Act.put, s1_, s2_, s3_]
              rfl
             refine one_ (i := 3) (N := some 34) #[true, true, true, true, false, false, false, false, true, true, false, false] rfl rfl (one_of HT_.out (by kernel_rfl)) (by decide) (fun K hK => ?_)
             refine goes_ Try.func72 (by kernel_rfl) rfl #[.int .i64 (wrap64 (64 * a1))] (by rfl) rfl rfl (by (try simp only [List.map_toArray, List.map_cons, List.map_nil]); first | done | rfl | (simp only [List.length_drop, List.length_take]; rfl)) ?_
             with_reducible refine (spec_Two.calls kj3 (wrap64 (64 * a1)) t296 t297 _ A28.out).mono ?_
             rintro e w36 ⟨v298, rfl, ho0, hb⟩
             refine ⟨_, rfl, ?_⟩
             have n0_ := a0_ (Kd.V_below (by (with_reducible repeat (first | apply v1_ | apply v2_ | apply v3_)); exact HO_285001.out) hb)
             have n1_ := a0_ (Kd.V_below (by (with_reducible repeat (first | apply v1_ | apply v2_ | apply v3_)); exact HO_290001.out) hb)
             have n2_ := a0_ (Kd.V_lower (v4_ (ok' := fun k_ => (P0_1_ k_ ∨ w.heap.size ≤ k_) ∧ k_ ≠ gb284 ∧ k_ ≠ gb289 ∧ k_ ≠ gb308 ∧ k_ ≠ gb309) ho0 (fun k_ hk_ => ⟨(.inr (Nat.le_trans (below_size (by repeat (first | (with_reducible first | exact HB.out | apply b1_ | apply b2_ | apply b3_ | refine b4_ ?_ GE284.out | refine b4_ ?_ GE289.out | refine b4_ ?_ GE308.out | refine b4_ ?_ GE309.out) | exact HB.out))) hk_)), (Kd.freshB (g := gb284) (o := .cells #[.bool true, .slice A0_1 l0_1.length c0_1] 29 (0, 0)) (by (with_reducible repeat (first | refine k1_ ?_ _ | refine k2_ ?_ | refine k3_ ?_ _)); exact BK284.out) k_ hk_), (Kd.freshB (g := gb289) (o := .cells #[.bool t285, .slice Ao10 t286.length co10] 29 (0, 0)) (by (with_reducible repeat (first | refine k1_ ?_ _ | refine k2_ ?_ | refine k3_ ?_ _)); exact BK289.out) k_ hk_), (Kd.freshB (g := gb308) (o := .cells #[.bool false, .slice none 0 0] 29 (0, 0)) (by (with_reducible repeat (first | refine k1_ ?_ _ | refine k2_ ?_ | refine k3_ ?_ _)); exact BK308.out) k_ hk_), (Kd.freshB (g := gb309) (o := .cells #[.bool false, .slice none 0 0] 29 (0, 0)) (by (with_reducible repeat (first | refine k1_ ?_ _ | refine k2_ ?_ | refine k3_ ?_ _)); exact BK309.out) k_ hk_)⟩)) (below_size (by repeat (first | (with_reducible first | exact HB.out | apply b1_ | apply b2_ | apply b3_ | refine b4_ ?_ GE284.out | refine b4_ ?_ GE289.out | refine b4_ ?_ GE308.out | refine b4_ ?_ GE309.out) | exact HB.out))))
             have n3_ := a0_ (blk_below (g := gb284) (o := .cells #[.bool true, .slice A0_1 l0_1.length c0_1] 29 (0, 0)) (by (with_reducible repeat (first | refine k1_ ?_ _ | refine k2_ ?_ | refine k3_ ?_ _)); exact BK284.out) hb)
             have n4_ := a0_ (blk_below (g := gb289) (o := .cells #[.bool t285, .slice Ao10 t286.length co10] 29 (0, 0)) (by (with_reducible repeat (first | refine k1_ ?_ _ | refine k2_ ?_ | refine k3_ ?_ _)); exact BK289.out) hb)
             have n5_ := a0_ (blk_below (g := gb308) (o := .cells #[.bool false, .slice none 0 0] 29 (0, 0)) (by (with_reducible repeat (first | refine k1_ ?_ _ | refine k2_ ?_ | refine k3_ ?_ _)); exact BK308.out) hb)
             have n6_ := a0_ (blk_below (g := gb309) (o := .cells #[.bool false, .slice none 0 0] 29 (0, 0)) (by (with_reducible repeat (first | refine k1_ ?_ _ | refine k2_ ?_ | refine k3_ ?_ _)); exact BK309.out) hb)
             have n7_ := a0_ (below_step (by repeat (first | (with_reducible first | exact HB.out | apply b1_ | apply b2_ | apply b3_ | refine b4_ ?_ GE284.out | refine b4_ ?_ GE289.out | refine b4_ ?_ GE308.out | refine b4_ ?_ GE309.out) | exact HB.out)) hb)
             clear HO_285001
             clear HO_290001
             clear BK284
             clear BK289
             clear BK308
             clear BK309
             clear HB
             have HO_285001 := n0_
             have HO_290001 := n1_
             have HO299 := n2_
             have BK284 := n3_
             have BK289 := n4_
             have BK308 := n5_
             have BK309 := n6_
             have HB := n7_
             clear n0_ n1_ n2_ n3_ n4_ n5_ n6_ n7_
             (try clear hb)
             (try clear hb2)
             (try clear hk)
             (try clear hi)
             (try clear ho0)
             refine hK.out _ _ ⟨(blk_cell BK284.out 0).trans rfl, (blk_cell BK284.out 1).trans rfl⟩ (fun hHeld => ?_)
             clear hK K
             refine norm_ (a' := ?_) ?_ ?_
             rotate_left
             ·
              show Act.put _ (some 34) _ = _
              simp only [Act.put, s1_, s2_, s3_, i64_w, i32_w]
              rfl
             exact norm_ (by first | (simp only [putAll, Act.put, s1_, s2_, s3_]; done) | (simp only [putAll, Act.put, s1_, s2_, s3_]; rfl)) (hJ3_8_9 (v298, gb308, gb309) _ ⟨hHeld, (by (with_reducible repeat (first | apply v1_ | apply v2_ | apply v3_)); exact HO299.out), (by (with_reducible repeat (first | apply v1_ | apply v2_ | apply v3_)); exact HO_285001.out), (by (with_reducible repeat (first | apply v1_ | apply v2_ | apply v3_)); exact HO_290001.out), (by (with_reducible repeat (first | refine k1_ ?_ _ | refine k2_ ?_ | refine k3_ ?_ _)); exact BK284.out), (by (with_reducible repeat (first | refine k1_ ?_ _ | refine k2_ ?_ | refine k3_ ?_ _)); exact BK289.out), (by (with_reducible repeat (first | refine k1_ ?_ _ | refine k2_ ?_ | refine k3_ ?_ _)); exact BK308.out), (by (with_reducible repeat (first | refine k1_ ?_ _ | refine k2_ ?_ | refine k3_ ?_ _)); exact BK309.out), GW308.out, GE308.out, NB284_308.out, NB308_284.out, NB289_308.out, NB308_289.out, NB309_308.out, NB308_309.out, GW309.out, GE309.out, NB284_309.out, NB309_284.out, NB289_309.out, NB309_289.out, (by repeat (first | (with_reducible first | exact HB.out | apply b1_ | apply b2_ | apply b3_ | refine b4_ ?_ GE284.out | refine b4_ ?_ GE289.out | refine b4_ ?_ GE308.out | refine b4_ ?_ GE309.out) | exact HB.out))⟩)
           ·
            skip
            rintro ⟨v298, gb309⟩ w35 ⟨hS_, h0_, h1_, h2_, h3_, h4_, h5_, h6_, h7_, h8_, h9_, h10_, h11_, h12_⟩
            have n0_ : Aside0 (Kd.V (Kd.int .u32) 96 w35 w.heap.size (fun k_ => (P0_1_ k_ ∨ w.heap.size ≤ k_) ∧ k_ ≠ gb284 ∧ k_ ≠ gb289 ∧ k_ ≠ gb309) v298 t297) := ⟨h0_⟩
            have n1_ : Aside0 (Kd.V (Kd.int .u32) 96 w35 w.heap.size (fun k_ => (P0_1_ k_ ∨ w.heap.size ≤ k_) ∧ k_ ≠ gb284 ∧ k_ ≠ gb289 ∧ k_ ≠ gb309) (.slice A0_1 l0_1.length c0_1) l0_1) := ⟨h1_⟩
            have n2_ : Aside0 (Kd.V (Kd.int .u32) 96 w35 w.heap.size (fun k_ => (P0_1_ k_ ∨ w.heap.size ≤ k_) ∧ k_ ≠ gb284 ∧ k_ ≠ gb289 ∧ k_ ≠ gb309) (.slice Ao10 t286.length co10) t286) := ⟨h2_⟩
            have n3_ : Aside0 (w35.heap[gb284]? = some (.cells #[.bool true, .slice A0_1 l0_1.length c0_1] 29 (0, 0))) := ⟨h3_⟩
            have n4_ : Aside0 (w35.heap[gb289]? = some (.cells #[.bool t285, .slice Ao10 t286.length co10] 29 (0, 0))) := ⟨h4_⟩
            have n5_ : Aside0 (w35.heap[gb309]? = some (.cells #[.bool false, .slice none 0 0] 29 (0, 0))) := ⟨h5_⟩
            have n6_ : Aside0 (w.heap.size ≤ gb309) := ⟨h6_⟩
            have n7_ : Aside0 (w.heap.size ≤ gb309) := ⟨h7_⟩
            have n8_ : Aside0 (gb284 ≠ gb309) := ⟨h8_⟩
            have n9_ : Aside0 (gb309 ≠ gb284) := ⟨h9_⟩
            have n10_ : Aside0 (gb289 ≠ gb309) := ⟨h10_⟩
            have n11_ : Aside0 (gb309 ≠ gb289) := ⟨h11_⟩
            have n12_ : Aside0 (Below w.heap.size w w35) := ⟨h12_⟩
            clear HO_285001
            clear HO_290001
            clear BK284
            clear BK289
            clear HB
            clear h0_ h1_ h2_ h3_ h4_ h5_ h6_ h7_ h8_ h9_ h10_ h11_ h12_
            have HO299 := n0_
            have HO_285001 := n1_
            have HO_290001 := n2_
            have BK284 := n3_
            have BK289 := n4_
            have BK309 := n5_
            have GW309 := n6_
            have GE309 := n7_
            have NB284_309 := n8_
            have NB309_284 := n9_
            have NB289_309 := n10_
            have NB309_289 := n11_
            have HB := n12_
            clear n0_ n1_ n2_ n3_ n4_ n5_ n6_ n7_ n8_ n9_ n10_ n11_ n12_
            have hHeld : w35.cell? ⟨gb284, 0, none⟩ = some (.bool true) ∧ w35.cell? ⟨gb284, 1, none⟩ = some (.slice A0_1 l0_1.length c0_1) := hS_
            obtain ⟨Ao36, co36, eo36⟩ := Kd.V_slice HO299.out
            (first | subst eo36 | (injection eo36 with f1_ f2_ f3_; have f4_ := f1_.symm; have f5_ := f3_.symm; clear f1_ f2_ f3_; subst f4_; subst f5_))
            refine norm_ (a' := ?_) ?_ ?_
            rotate_left
            ·
             simp only [putAll, Act.put, s1_, s2_, s3_]
             rfl
            refine two_ (i := 4) (j := 8) (Ni := some 35) (Nj := some 8) #[true, true, true, true, true, false, false, false, false, true, false, false] #[true, true, true, true, false, false, false, false, true, true, false, false] rfl rfl rfl rfl (two_of HT_.out (by kernel_rfl)) (by decide) (by decide) (fun K hK => ?_) (fun K hK => ?_)
            ·
             skip
             refine goes_ Try.func11 (by kernel_rfl) rfl #[.agg #[.bool true, .slice A0_1 l0_1.length c0_1], .agg #[.bool t296, .slice Ao36 t297.length co36]] (by rfl) rfl rfl (by (try simp only [List.map_toArray, List.map_cons, List.map_nil]); first | done | rfl | (simp only [List.length_drop, List.length_take]; rfl)) ?_
             with_reducible refine (spec_WideDiv.calls kj3 true _ _ l0_1 t296 _ _ t297 t300 t301 t304 t305 _ ?side1 ?side2 ?side3 ?side4 A29.out).mono ?_
             (case side1 => repeat (first | exact (Kd.V_reads' HO_285001.out).2.2 | (with_reducible refine Kd.C_alloc ?_ _) | (with_reducible refine Kd.C_drewN ?_ _) | (with_reducible refine Kd.C_drew ?_)))
             (case side2 => exact (Kd.V_reads' HO_285001.out).2.1)
             (case side3 => repeat (first | exact (Kd.V_reads' HO299.out).2.2 | (with_reducible refine Kd.C_alloc ?_ _) | (with_reducible refine Kd.C_drewN ?_ _) | (with_reducible refine Kd.C_drew ?_)))
             (case side4 => exact (Kd.V_reads' HO299.out).2.1)
             rintro e w37 ⟨v302, v306, rfl, ho0, ho1, hb⟩
             refine ⟨_, rfl, ?_⟩
             have n0_ := a0_ (Kd.V_below (by (with_reducible repeat (first | apply v1_ | apply v2_ | apply v3_)); exact HO_285001.out) hb)
             have n1_ := a0_ (Kd.V_below (by (with_reducible repeat (first | apply v1_ | apply v2_ | apply v3_)); exact HO_290001.out) hb)
             have n2_ := a0_ (Kd.V_below (by (with_reducible repeat (first | apply v1_ | apply v2_ | apply v3_)); exact HO299.out) hb)
             have n3_ := a0_ (Kd.V_lower (v4_ (ok' := fun k_ => (P0_1_ k_ ∨ w.heap.size ≤ k_) ∧ k_ ≠ gb284 ∧ k_ ≠ gb289 ∧ k_ ≠ gb309) ho0 (fun k_ hk_ => ⟨(.inr (Nat.le_trans (below_size (by repeat (first | (with_reducible first | exact HB.out | apply b1_ | apply b2_ | apply b3_ | refine b4_ ?_ GE284.out | refine b4_ ?_ GE289.out | refine b4_ ?_ GE309.out) | exact HB.out))) hk_)), (Kd.freshB (g := gb284) (o := .cells #[.bool true, .slice A0_1 l0_1.length c0_1] 29 (0, 0)) (by (with_reducible repeat (first | refine k1_ ?_ _ | refine k2_ ?_ | refine k3_ ?_ _)); exact BK284.out) k_ hk_), (Kd.freshB (g := gb289) (o := .cells #[.bool t285, .slice Ao10 t286.length co10] 29 (0, 0)) (by (with_reducible repeat (first | refine k1_ ?_ _ | refine k2_ ?_ | refine k3_ ?_ _)); exact BK289.out) k_ hk_), (Kd.freshB (g := gb309) (o := .cells #[.bool false, .slice none 0 0] 29 (0, 0)) (by (with_reducible repeat (first | refine k1_ ?_ _ | refine k2_ ?_ | refine k3_ ?_ _)); exact BK309.out) k_ hk_)⟩)) (below_size (by repeat (first | (with_reducible first | exact HB.out | apply b1_ | apply b2_ | apply b3_ | refine b4_ ?_ GE284.out | refine b4_ ?_ GE289.out | refine b4_ ?_ GE309.out) | exact HB.out))))
             have n4_ := a0_ (Kd.V_lower (v4_ (ok' := fun k_ => (P0_1_ k_ ∨ w.heap.size ≤ k_) ∧ k_ ≠ gb284 ∧ k_ ≠ gb289 ∧ k_ ≠ gb309) ho1 (fun k_ hk_ => ⟨(.inr (Nat.le_trans (below_size (by repeat (first | (with_reducible first | exact HB.out | apply b1_ | apply b2_ | apply b3_ | refine b4_ ?_ GE284.out | refine b4_ ?_ GE289.out | refine b4_ ?_ GE309.out) | exact HB.out))) hk_)), (Kd.freshB (g := gb284) (o := .cells #[.bool true, .slice A0_1 l0_1.length c0_1] 29 (0, 0)) (by (with_reducible repeat (first | refine k1_ ?_ _ | refine k2_ ?_ | refine k3_ ?_ _)); exact BK284.out) k_ hk_), (Kd.freshB (g := gb289) (o := .cells #[.bool t285, .slice Ao10 t286.length co10] 29 (0, 0)) (by (with_reducible repeat (first | refine k1_ ?_ _ | refine k2_ ?_ | refine k3_ ?_ _)); exact BK289.out) k_ hk_), (Kd.freshB (g := gb309) (o := .cells #[.bool false, .slice none 0 0] 29 (0, 0)) (by (with_reducible repeat (first | refine k1_ ?_ _ | refine k2_ ?_ | refine k3_ ?_ _)); exact BK309.out) k_ hk_)⟩)) (below_size (by repeat (first | (with_reducible first | exact HB.out | apply b1_ | apply b2_ | apply b3_ | refine b4_ ?_ GE284.out | refine b4_ ?_ GE289.out | refine b4_ ?_ GE309.out) | exact HB.out))))
             have n5_ := a0_ (blk_below (g := gb284) (o := .cells #[.bool true, .slice A0_1 l0_1.length c0_1] 29 (0, 0)) (by (with_reducible repeat (first | refine k1_ ?_ _ | refine k2_ ?_ | refine k3_ ?_ _)); exact BK284.out) hb)
             have n6_ := a0_ (blk_below (g := gb289) (o := .cells #[.bool t285, .slice Ao10 t286.length co10] 29 (0, 0)) (by (with_reducible repeat (first | refine k1_ ?_ _ | refine k2_ ?_ | refine k3_ ?_ _)); exact BK289.out) hb)
             have n7_ := a0_ (blk_below (g := gb309) (o := .cells #[.bool false, .slice none 0 0] 29 (0, 0)) (by (with_reducible repeat (first | refine k1_ ?_ _ | refine k2_ ?_ | refine k3_ ?_ _)); exact BK309.out) hb)
             have n8_ := a0_ (below_step (by repeat (first | (with_reducible first | exact HB.out | apply b1_ | apply b2_ | apply b3_ | refine b4_ ?_ GE284.out | refine b4_ ?_ GE289.out | refine b4_ ?_ GE309.out) | exact HB.out)) hb)
             clear HO_285001
             clear HO_290001
             clear HO299
             clear BK284
             clear BK289
             clear BK309
             clear HB
             have HO_285001 := n0_
             have HO_290001 := n1_
             have HO299 := n2_
             have HO303 := n3_
             have HO307 := n4_
             have BK284 := n5_
             have BK289 := n6_
             have BK309 := n7_
             have HB := n8_
             clear n0_ n1_ n2_ n3_ n4_ n5_ n6_ n7_ n8_
             (try clear hb)
             (try clear hb2)
             (try clear hk)
             (try clear hi)
             (try clear ho0)
             (try clear ho1)
             refine hK.out _ _ ⟨(blk_cell BK284.out 0).trans rfl, (blk_cell BK284.out 1).trans rfl⟩ (fun hHeld => ?_)
             clear hK K
             refine norm_ (a' := ?_) ?_ ?_
             rotate_left
             ·
              show Act.put _ (some 35) _ = _
              simp only [Act.put, s1_, s2_, s3_, i64_w, i32_w]
              rfl
             refine pure_ (i := 5) (N := some 30) (v := ?_) (a' := ?_) #[true, true, true, true, true, true, false, false, false, true, false, false] rfl rfl (any_of HT_.out (by kernel_rfl)) (fun _ _ _ h => h) (Or.inl ⟨by rfl, ?_⟩) ?_ ?_
             rotate_left
             ·
              intro w'
              go_simp
              with_reducible rfl
             rotate_left
             ·
              simp only [Act.put, s1_, s2_, s3_, i64_w, i32_w]
              rfl
             refine pure_ (i := 6) (N := some 36) (v := ?_) (a' := ?_) #[true, true, true, true, true, true, true, false, false, true, false, false] rfl rfl (any_of HT_.out (by kernel_rfl)) (fun _ _ _ h => h) (Or.inl ⟨by rfl, ?_⟩) ?_ ?_
             rotate_left
             ·
              intro w'
              go_simp
              with_reducible rfl
             rotate_left
             ·
              simp only [Act.put, s1_, s2_, s3_, i64_w, i32_w]
              rfl
             refine pure_ (i := 7) (N := some 37) (v := ?_) (a' := ?_) #[true, true, true, true, true, true, true, true, false, true, false, false] rfl rfl (any_of HT_.out (by kernel_rfl)) (fun _ _ _ h => h) (Or.inl ⟨by rfl, ?_⟩) ?_ ?_
             rotate_left
             ·
              intro w'
              go_simp
              with_reducible rfl
             rotate_left
             ·
              simp only [Act.put, s1_, s2_, s3_, i64_w, i32_w]
              rfl
             exact norm_ (by first | (simp only [putAll, Act.put, s1_, s2_, s3_]; done) | (simp only [putAll, Act.put, s1_, s2_, s3_]; rfl)) (hJ3_4_9 (.slice Ao36 t297.length co36, v302, v306, gb309) _ ⟨hHeld, (by (with_reducible repeat (first | apply v1_ | apply v2_ | apply v3_)); exact HO299.out), (by (with_reducible repeat (first | apply v1_ | apply v2_ | apply v3_)); exact HO303.out), (by (with_reducible repeat (first | apply v1_ | apply v2_ | apply v3_)); exact HO307.out), (by (with_reducible repeat (first | apply v1_ | apply v2_ | apply v3_)); exact HO_285001.out), (by (with_reducible repeat (first | apply v1_ | apply v2_ | apply v3_)); exact HO_290001.out), (by (with_reducible repeat (first | refine k1_ ?_ _ | refine k2_ ?_ | refine k3_ ?_ _)); exact BK284.out), (by (with_reducible repeat (first | refine k1_ ?_ _ | refine k2_ ?_ | refine k3_ ?_ _)); exact BK289.out), (by (with_reducible repeat (first | refine k1_ ?_ _ | refine k2_ ?_ | refine k3_ ?_ _)); exact BK309.out), GW309.out, GE309.out, NB284_309.out, NB309_284.out, NB289_309.out, NB309_289.out, (by repeat (first | (with_reducible first | exact HB.out | apply b1_ | apply b2_ | apply b3_ | refine b4_ ?_ GE284.out | refine b4_ ?_ GE289.out | refine b4_ ?_ GE309.out) | exact HB.out))⟩)
            ·
             skip
             refine box_step ?hg (N := 8) ?hd (cs := #[.bool false, .slice none 0 0]) (t := 29) ?hr ?_; (case hd => rfl); (case hg => rfl); (case hr => first | (go_simp; done) | (go_simp; rfl))
             intro gb308 hg w36 hbox hb
             have n0_ := a0_ (Kd.V_below (Kd.V_elderB (by (with_reducible repeat (first | apply v1_ | apply v2_ | apply v3_)); exact HO_285001.out) gb308 (Nat.le_of_eq hg.symm)) hb)
             have n1_ := a0_ (Kd.V_below (Kd.V_elderB (by (with_reducible repeat (first | apply v1_ | apply v2_ | apply v3_)); exact HO_290001.out) gb308 (Nat.le_of_eq hg.symm)) hb)
             have n2_ := a0_ (Kd.V_below (Kd.V_elderB (by (with_reducible repeat (first | apply v1_ | apply v2_ | apply v3_)); exact HO299.out) gb308 (Nat.le_of_eq hg.symm)) hb)
             have n3_ := a0_ (blk_below (g := gb284) (o := .cells #[.bool true, .slice A0_1 l0_1.length c0_1] 29 (0, 0)) (by (with_reducible repeat (first | refine k1_ ?_ _ | refine k2_ ?_ | refine k3_ ?_ _)); exact BK284.out) hb)
             have n4_ := a0_ (blk_below (g := gb289) (o := .cells #[.bool t285, .slice Ao10 t286.length co10] 29 (0, 0)) (by (with_reducible repeat (first | refine k1_ ?_ _ | refine k2_ ?_ | refine k3_ ?_ _)); exact BK289.out) hb)
             have n5_ := a0_ (blk_below (g := gb309) (o := .cells #[.bool false, .slice none 0 0] 29 (0, 0)) (by (with_reducible repeat (first | refine k1_ ?_ _ | refine k2_ ?_ | refine k3_ ?_ _)); exact BK309.out) hb)
             have n6_ := a0_ (below_step (by repeat (first | (with_reducible first | exact HB.out | apply b1_ | apply b2_ | apply b3_ | refine b4_ ?_ GE284.out | refine b4_ ?_ GE289.out | refine b4_ ?_ GE309.out) | exact HB.out)) hb)
             have n7_ := a0_ (hbox)
             have n8_ := a0_ ((by rw [hg]; exact (below_size (by repeat (first | (with_reducible first | exact HB.out | apply b1_ | apply b2_ | apply b3_ | refine b4_ ?_ GE284.out | refine b4_ ?_ GE289.out | refine b4_ ?_ GE309.out) | exact HB.out))) : w.heap.size ≤ gb308))
             have n9_ := a0_ ((by rw [hg]; exact (below_size (by repeat (first | (with_reducible first | exact HB.out | apply b1_ | apply b2_ | apply b3_ | refine b4_ ?_ GE284.out | refine b4_ ?_ GE289.out | refine b4_ ?_ GE309.out) | exact HB.out))) : w.heap.size ≤ gb308))
             have n10_ := a0_ ((by rw [hg]; exact Nat.ne_of_lt (blk_lt (g := gb284) (o := .cells #[.bool true, .slice A0_1 l0_1.length c0_1] 29 (0, 0)) (by (with_reducible repeat (first | refine k1_ ?_ _ | refine k2_ ?_ | refine k3_ ?_ _)); exact BK284.out)) : gb284 ≠ gb308))
             have n11_ := a0_ ((by rw [hg]; exact Nat.ne_of_gt (blk_lt (g := gb284) (o := .cells #[.bool true, .slice A0_1 l0_1.length c0_1] 29 (0, 0)) (by (with_reducible repeat (first | refine k1_ ?_ _ | refine k2_ ?_ | refine k3_ ?_ _)); exact BK284.out)) : gb308 ≠ gb284))
             have n12_ := a0_ ((by rw [hg]; exact Nat.ne_of_lt (blk_lt (g := gb289) (o := .cells #[.bool t285, .slice Ao10 t286.length co10] 29 (0, 0)) (by (with_reducible repeat (first | refine k1_ ?_ _ | refine k2_ ?_ | refine k3_ ?_ _)); exact BK289.out)) : gb289 ≠ gb308))
             have n13_ := a0_ ((by rw [hg]; exact Nat.ne_of_gt (blk_lt (g := gb289) (o := .cells #[.bool t285, .slice Ao10 t286.length co10] 29 (0, 0)) (by (with_reducible repeat (first | refine k1_ ?_ _ | refine k2_ ?_ | refine k3_ ?_ _)); exact BK289.out)) : gb308 ≠ gb289))
             have n14_ := a0_ ((by rw [hg]; exact Nat.ne_of_lt (blk_lt (g := gb309) (o := .cells #[.bool false, .slice none 0 0] 29 (0, 0)) (by (with_reducible repeat (first | refine k1_ ?_ _ | refine k2_ ?_ | refine k3_ ?_ _)); exact BK309.out)) : gb309 ≠ gb308))
             have n15_ := a0_ ((by rw [hg]; exact Nat.ne_of_gt (blk_lt (g := gb309) (o := .cells #[.bool false, .slice none 0 0] 29 (0, 0)) (by (with_reducible repeat (first | refine k1_ ?_ _ | refine k2_ ?_ | refine k3_ ?_ _)); exact BK309.out)) : gb308 ≠ gb309))
             clear HO_285001
             clear HO_290001
             clear HO299
             clear BK284
             clear BK289
             clear BK309
             clear HB
             have HO_285001 := n0_
             have HO_290001 := n1_
             have HO299 := n2_
             have BK284 := n3_
             have BK289 := n4_
             have BK309 := n5_
             have HB := n6_
             have BK308 := n7_
             have GW308 := n8_
             have GE308 := n9_
             have NB284_308 := n10_
             have NB308_284 := n11_
             have NB289_308 := n12_
             have NB308_289 := n13_
             have NB309_308 := n14_
             have NB308_309 := n15_
             clear n0_ n1_ n2_ n3_ n4_ n5_ n6_ n7_ n8_ n9_ n10_ n11_ n12_ n13_ n14_ n15_
             clear hb hbox hg
             refine hK.out _ _ ⟨(blk_cell BK284.out 0).trans rfl, (blk_cell BK284.out 1).trans rfl⟩ (fun hHeld => ?_)
             clear hK K
             refine norm_ (a' := ?_) ?_ ?_
             rotate_left
             ·
              show Act.put _ (some 8) _ = _
              simp only [Act.put, s1_, s2_, s3_, i64_w, i32_w]
              rfl
             exact norm_ (by first | (simp only [putAll, Act.put, s1_, s2_, s3_]; done) | (simp only [putAll, Act.put, s1_, s2_, s3_]; rfl)) (hJ3_8_9 ((.slice Ao36 t297.length co36), gb308, gb309) _ ⟨hHeld, (by (with_reducible repeat (first | apply v1_ | apply v2_ | apply v3_)); exact v4_ HO299.out (fun _ hk => ⟨hk.1.1, ⟨hk.1.2.1, ⟨hk.1.2.2.1, ⟨hk.2, hk.1.2.2.2⟩⟩⟩⟩)), (by (with_reducible repeat (first | apply v1_ | apply v2_ | apply v3_)); exact v4_ HO_285001.out (fun _ hk => ⟨hk.1.1, ⟨hk.1.2.1, ⟨hk.1.2.2.1, ⟨hk.2, hk.1.2.2.2⟩⟩⟩⟩)), (by (with_reducible repeat (first | apply v1_ | apply v2_ | apply v3_)); exact v4_ HO_290001.out (fun _ hk => ⟨hk.1.1, ⟨hk.1.2.1, ⟨hk.1.2.2.1, ⟨hk.2, hk.1.2.2.2⟩⟩⟩⟩)), (by (with_reducible repeat (first | refine k1_ ?_ _ | refine k2_ ?_ | refine k3_ ?_ _)); exact BK284.out), (by (with_reducible repeat (first | refine k1_ ?_ _ | refine k2_ ?_ | refine k3_ ?_ _)); exact BK289.out), (by (with_reducible repeat (first | refine k1_ ?_ _ | refine k2_ ?_ | refine k3_ ?_ _)); exact BK308.out), (by (with_reducible repeat (first | refine k1_ ?_ _ | refine k2_ ?_ | refine k3_ ?_ _)); exact BK309.out), GW308.out, GE308.out, NB284_308.out, NB308_284.out, NB289_308.out, NB308_289.out, NB309_308.out, NB308_309.out, GW309.out, GE309.out, NB284_309.out, NB309_284.out, NB289_309.out, NB309_289.out, (by repeat (first | (with_reducible first | exact HB.out | apply b1_ | apply b2_ | apply b3_ | refine b4_ ?_ GE284.out | refine b4_ ?_ GE289.out | refine b4_ ?_ GE309.out | refine b4_ ?_ GE308.out) | exact HB.out))⟩)
          ·
           skip
           rintro ⟨v298, gb308⟩ w35 ⟨hS_, h0_, h1_, h2_, h3_, h4_, h5_, h6_, h7_, h8_, h9_, h10_, h11_, h12_⟩
           have n0_ : Aside0 (Kd.V (Kd.int .u32) 96 w35 w.heap.size (fun k_ => (P0_1_ k_ ∨ w.heap.size ≤ k_) ∧ k_ ≠ gb284 ∧ k_ ≠ gb289 ∧ k_ ≠ gb308) v298 t297) := ⟨h0_⟩
           have n1_ : Aside0 (Kd.V (Kd.int .u32) 96 w35 w.heap.size (fun k_ => (P0_1_ k_ ∨ w.heap.size ≤ k_) ∧ k_ ≠ gb284 ∧ k_ ≠ gb289 ∧ k_ ≠ gb308) (.slice A0_1 l0_1.length c0_1) l0_1) := ⟨h1_⟩
           have n2_ : Aside0 (Kd.V (Kd.int .u32) 96 w35 w.heap.size (fun k_ => (P0_1_ k_ ∨ w.heap.size ≤ k_) ∧ k_ ≠ gb284 ∧ k_ ≠ gb289 ∧ k_ ≠ gb308) (.slice Ao10 t286.length co10) t286) := ⟨h2_⟩
           have n3_ : Aside0 (w35.heap[gb284]? = some (.cells #[.bool true, .slice A0_1 l0_1.length c0_1] 29 (0, 0))) := ⟨h3_⟩
           have n4_ : Aside0 (w35.heap[gb289]? = some (.cells #[.bool t285, .slice Ao10 t286.length co10] 29 (0, 0))) := ⟨h4_⟩
           have n5_ : Aside0 (w35.heap[gb308]? = some (.cells #[.bool false, .slice none 0 0] 29 (0, 0))) := ⟨h5_⟩
           have n6_ : Aside0 (w.heap.size ≤ gb308) := ⟨h6_⟩
           have n7_ : Aside0 (w.heap.size ≤ gb308) := ⟨h7_⟩
           have n8_ : Aside0 (gb284 ≠ gb308) := ⟨h8_⟩
           have n9_ : Aside0 (gb308 ≠ gb284) := ⟨h9_⟩
           have n10_ : Aside0 (gb289 ≠ gb308) := ⟨h10_⟩
           have n11_ : Aside0 (gb308 ≠ gb289) := ⟨h11_⟩
           have n12_ : Aside0 (Below w.heap.size w w35) := ⟨h12_⟩
           clear HO_285001
           clear HO_290001
           clear BK284
           clear BK289
           clear HB
           clear h0_ h1_ h2_ h3_ h4_ h5_ h6_ h7_ h8_ h9_ h10_ h11_ h12_
           have HO299 := n0_
           have HO_285001 := n1_
           have HO_290001 := n2_
           have BK284 := n3_
           have BK289 := n4_
           have BK308 := n5_
           have GW308 := n6_
           have GE308 := n7_
           have NB284_308 := n8_
           have NB308_284 := n9_
           have NB289_308 := n10_
           have NB308_289 := n11_
           have HB := n12_
           clear n0_ n1_ n2_ n3_ n4_ n5_ n6_ n7_ n8_ n9_ n10_ n11_ n12_
           have hHeld : w35.cell? ⟨gb284, 0, none⟩ = some (.bool true) ∧ w35.cell? ⟨gb284, 1, none⟩ = some (.slice A0_1 l0_1.length c0_1) := hS_
           obtain ⟨Ao36, co36, eo36⟩ := Kd.V_slice HO299.out
           (first | subst eo36 | (injection eo36 with f1_ f2_ f3_; have f4_ := f1_.symm; have f5_ := f3_.symm; clear f1_ f2_ f3_; subst f4_; subst f5_))
           refine norm_ (a' := ?_) ?_ ?_
           rotate_left
           ·
            simp only [putAll, Act.put, s1_, s2_, s3_]
            rfl
           refine two_ (i := 4) (j := 9) (Ni := some 35) (Nj := some 9) #[true, true, true, true, true, false, false, false, true, false, false, false] #[true, true, true, true, false, false, false, false, true, true, false, false] rfl rfl rfl rfl (two_of HT_.out (by kernel_rfl)) (by decide) (by decide) (fun K hK => ?_) (fun K hK => ?_)
           ·
            skip
            refine goes_ Try.func11 (by kernel_rfl) rfl #[.agg #[.bool true, .slice A0_1 l0_1.length c0_1], .agg #[.bool t296, .slice Ao36 t297.length co36]] (by rfl) rfl rfl (by (try simp only [List.map_toArray, List.map_cons, List.map_nil]); first | done | rfl | (simp only [List.length_drop, List.length_take]; rfl)) ?_
            with_reducible refine (spec_WideDiv.calls kj3 true _ _ l0_1 t296 _ _ t297 t300 t301 t304 t305 _ ?side1 ?side2 ?side3 ?side4 A29.out).mono ?_
            (case side1 => repeat (first | exact (Kd.V_reads' HO_285001.out).2.2 | (with_reducible refine Kd.C_alloc ?_ _) | (with_reducible refine Kd.C_drewN ?_ _) | (with_reducible refine Kd.C_drew ?_)))
            (case side2 => exact (Kd.V_reads' HO_285001.out).2.1)
            (case side3 => repeat (first | exact (Kd.V_reads' HO299.out).2.2 | (with_reducible refine Kd.C_alloc ?_ _) | (with_reducible refine Kd.C_drewN ?_ _) | (with_reducible refine Kd.C_drew ?_)))
            (case side4 => exact (Kd.V_reads' HO299.out).2.1)
            rintro e w37 ⟨v302, v306, rfl, ho0, ho1, hb⟩
            refine ⟨_, rfl, ?_⟩
            have n0_ := a0_ (Kd.V_below (by (with_reducible repeat (first | apply v1_ | apply v2_ | apply v3_)); exact HO_285001.out) hb)
            have n1_ := a0_ (Kd.V_below (by (with_reducible repeat (first | apply v1_ | apply v2_ | apply v3_)); exact HO_290001.out) hb)
            have n2_ := a0_ (Kd.V_below (by (with_reducible repeat (first | apply v1_ | apply v2_ | apply v3_)); exact HO299.out) hb)
            have n3_ := a0_ (Kd.V_lower (v4_ (ok' := fun k_ => (P0_1_ k_ ∨ w.heap.size ≤ k_) ∧ k_ ≠ gb284 ∧ k_ ≠ gb289 ∧ k_ ≠ gb308) ho0 (fun k_ hk_ => ⟨(.inr (Nat.le_trans (below_size (by repeat (first | (with_reducible first | exact HB.out | apply b1_ | apply b2_ | apply b3_ | refine b4_ ?_ GE284.out | refine b4_ ?_ GE289.out | refine b4_ ?_ GE308.out) | exact HB.out))) hk_)), (Kd.freshB (g := gb284) (o := .cells #[.bool true, .slice A0_1 l0_1.length c0_1] 29 (0, 0)) (by (with_reducible repeat (first | refine k1_ ?_ _ | refine k2_ ?_ | refine k3_ ?_ _)); exact BK284.out) k_ hk_), (Kd.freshB (g := gb289) (o := .cells #[.bool t285, .slice Ao10 t286.length co10] 29 (0, 0)) (by (with_reducible repeat (first | refine k1_ ?_ _ | refine k2_ ?_ | refine k3_ ?_ _)); exact BK289.out) k_ hk_), (Kd.freshB (g := gb308) (o := .cells #[.bool false, .slice none 0 0] 29 (0, 0)) (by (with_reducible repeat (first | refine k1_ ?_ _ | refine k2_ ?_ | refine k3_ ?_ _)); exact BK308.out) k_ hk_)⟩)) (below_size (by repeat (first | (with_reducible first | exact HB.out | apply b1_ | apply b2_ | apply b3_ | refine b4_ ?_ GE284.out | refine b4_ ?_ GE289.out | refine b4_ ?_ GE308.out) | exact HB.out))))
            have n4_ := a0_ (Kd.V_lower (v4_ (ok' := fun k_ => (P0_1_ k_ ∨ w.heap.size ≤ k_) ∧ k_ ≠ gb284 ∧ k_ ≠ gb289 ∧ k_ ≠ gb308) ho1 (fun k_ hk_ => ⟨(.inr (Nat.le_trans (below_size (by repeat (first | (with_reducible first | exact HB.out | apply b1_ | apply b2_ | apply b3_ | refine b4_ ?_ GE284.out | refine b4_ ?_ GE289.out | refine b4_ ?_ GE308.out) | exact HB.out))) hk_)), (Kd.freshB (g := gb284) (o := .cells #[.bool true, .slice A0_1 l0_1.length c0_1] 29 (0, 0)) (by (with_reducible repeat (first | refine k1_ ?_ _ | refine k2_ ?_ | refine k3_ ?_ _)); exact BK284.out) k_ hk_), (Kd.freshB (g := gb289) (o := .cells #[.bool t285, .slice Ao10 t286.length co10] 29 (0, 0)) (by (with_reducible repeat (first | refine k1_ ?_ _ | refine k2_ ?_ | refine k3_ ?_ _)); exact BK289.out) k_ hk_), (Kd.freshB (g := gb308) (o := .cells #[.bool false, .slice none 0 0] 29 (0, 0)) (by (with_reducible repeat (first | refine k1_ ?_ _ | refine k2_ ?_ | refine k3_ ?_ _)); exact BK308.out) k_ hk_)⟩)) (below_size (by repeat (first | (with_reducible first | exact HB.out | apply b1_ | apply b2_ | apply b3_ | refine b4_ ?_ GE284.out | refine b4_ ?_ GE289.out | refine b4_ ?_ GE308.out) | exact HB.out))))
            have n5_ := a0_ (blk_below (g := gb284) (o := .cells #[.bool true, .slice A0_1 l0_1.length c0_1] 29 (0, 0)) (by (with_reducible repeat (first | refine k1_ ?_ _ | refine k2_ ?_ | refine k3_ ?_ _)); exact BK284.out) hb)
            have n6_ := a0_ (blk_below (g := gb289) (o := .cells #[.bool t285, .slice Ao10 t286.length co10] 29 (0, 0)) (by (with_reducible repeat (first | refine k1_ ?_ _ | refine k2_ ?_ | refine k3_ ?_ _)); exact BK289.out) hb)
            have n7_ := a0_ (blk_below (g := gb308) (o := .cells #[.bool false, .slice none 0 0] 29 (0, 0)) (by (with_reducible repeat (first | refine k1_ ?_ _ | refine k2_ ?_ | refine k3_ ?_ _)); exact BK308.out) hb)
            have n8_ := a0_ (below_step (by repeat (first | (with_reducible first | exact HB.out | apply b1_ | apply b2_ | apply b3_ | refine b4_ ?_ GE284.out | refine b4_ ?_ GE289.out | refine b4_ ?_ GE308.out) | exact HB.out)) hb)
            clear HO_285001
            clear HO_290001
            clear HO299
            clear BK284
            clear BK289
            clear BK308
            clear HB
            have HO_285001 := n0_
            have HO_290001 := n1_
            have HO299 := n2_
            have HO303 := n3_
            have HO307 := n4_
            have BK284 := n5_
            have BK289 := n6_
            have BK308 := n7_
            have HB := n8_
            clear n0_ n1_ n2_ n3_ n4_ n5_ n6_ n7_ n8_
            (try clear hb)
            (try clear hb2)
            (try clear hk)
            (try clear hi)
            (try clear ho0)
            (try clear ho1)
            refine hK.out _ _ ⟨(blk_cell BK284.out 0).trans rfl, (blk_cell BK284.out 1).trans rfl⟩ (fun hHeld => ?_)
            clear hK K
            refine norm_ (a' := ?_) ?_ ?_
            rotate_left
            ·
             show Act.put _ (some 35) _ = _
             simp only [Act.put, s1_, s2_, s3_, i64_w, i32_w]
             rfl
            refine pure_ (i := 5) (N := some 30) (v := ?_) (a' := ?_) #[true, true, true, true, true, true, false, false, true, false, false, false] rfl rfl (any_of HT_.out (by kernel_rfl)) (fun _ _ _ h => h) (Or.inl ⟨by rfl, ?_⟩) ?_ ?_
            rotate_left
            ·
             intro w'
             go_simp
             with_reducible rfl
            rotate_left
            ·
             simp only [Act.put, s1_, s2_, s3_, i64_w, i32_w]
             rfl
            refine pure_ (i := 6) (N := some 36) (v := ?_) (a' := ?_) #[true, true, true, true, true, true, true, false, true, false, false, false] rfl rfl (any_of HT_.out (by kernel_rfl)) (fun _ _ _ h => h) (Or.inl ⟨by rfl, ?_⟩) ?_ ?_
            rotate_left
            ·
             intro w'
             go_simp
             with_reducible rfl
            rotate_left
            ·
             simp only [Act.put, s1_, s2_, s3_, i64_w, i32_w]
             rfl
            refine pure_ (i := 7) (N := some 37) (v := ?_) (a' := ?_) #[true, true, true, true, true, true, true, true, true, false, false, false] rfl rfl (any_of HT_.out (by kernel_rfl)) (fun _ _ _ h => h) (Or.inl ⟨by rfl, ?_⟩) ?_ ?_
            rotate_left
            ·
             intro w'
             go_simp
             with_reducible rfl
            rotate_left
            ·
             simp only [Act.put, s1_, s2_, s3_, i64_w, i32_w]
             rfl
            exact norm_ (by first | (simp only [putAll, Act.put, s1_, s2_, s3_]; done) | (simp only [putAll, Act.put, s1_, s2_, s3_]; rfl)) (hJ3_4_8 (.slice Ao36 t297.length co36, v302, v306, gb308) _ ⟨hHeld, (by (with_reducible repeat (first | apply v1_ | apply v2_ | apply v3_)); exact HO299.out), (by (with_reducible repeat (first | apply v1_ | apply v2_ | apply v3_)); exact HO303.out), (by (with_reducible repeat (first | apply v1_ | apply v2_ | apply v3_)); exact HO307.out), (by (with_reducible repeat (first | apply v1_ | apply v2_ | apply v3_)); exact HO_285001.out), (by (with_reducible repeat (first | apply v1_ | apply v2_ | apply v3_)); exact HO_290001.out), (by (with_reducible repeat (first | refine k1_ ?_ _ | refine k2_ ?_ | refine k3_ ?_ _)); exact BK284.out), (by (with_reducible repeat (first | refine k1_ ?_ _ | refine k2_ ?_ | refine k3_ ?_ _)); exact BK289.out), (by (with_reducible repeat (first | refine k1_ ?_ _ | refine k2_ ?_ | refine k3_ ?_ _)); exact BK308.out), GW308.out, GE308.out, NB284_308.out, NB308_284.out, NB289_308.out, NB308_289.out, (by repeat (first | (with_reducible first | exact HB.out | apply b1_ | apply b2_ | apply b3_ | refine b4_ ?_ GE284.out | refine b4_ ?_ GE289.out | refine b4_ ?_ GE308.out) | exact HB.out))⟩)
           ·
            skip
            refine box_step ?hg (N := 9) ?hd (cs := #[.bool false, .slice none 0 0]) (t := 29) ?hr ?_; (case hd => rfl); (case hg => rfl); (case hr => first | (go_simp; done) | (go_simp; rfl))
            intro gb309 hg w36 hbox hb
            have n0_ := a0_ (Kd.V_below (Kd.V_elderB (by (with_reducible repeat (first | apply v1_ | apply v2_ | apply v3_)); exact HO_285001.out) gb309 (Nat.le_of_eq hg.symm)) hb)
            have n1_ := a0_ (Kd.V_below (Kd.V_elderB (by (with_reducible repeat (first | apply v1_ | apply v2_ | apply v3_)); exact HO_290001.out) gb309 (Nat.le_of_eq hg.symm)) hb)
            have n2_ := a0_ (Kd.V_below (Kd.V_elderB (by (with_reducible repeat (first | apply v1_ | apply v2_ | apply v3_)); exact HO299.out) gb309 (Nat.le_of_eq hg.symm)) hb)
            have n3_ := a0_ (blk_below (g := gb284) (o := .cells #[.bool true, .slice A0_1 l0_1.length c0_1] 29 (0, 0)) (by (with_reducible repeat (first | refine k1_ ?_ _ | refine k2_ ?_ | refine k3_ ?_ _)); exact BK284.out) hb)
            have n4_ := a0_ (blk_below (g := gb289) (o := .cells #[.bool t285, .slice Ao10 t286.length co10] 29 (0, 0)) (by (with_reducible repeat (first | refine k1_ ?_ _ | refine k2_ ?_ | refine k3_ ?_ _)); exact BK289.out) hb)
            have n5_ := a0_ (blk_below (g := gb308) (o := .cells #[.bool false, .slice none 0 0] 29 (0, 0)) (by (with_reducible repeat (first | refine k1_ ?_ _ | refine k2_ ?_ | refine k3_ ?_ _)); exact BK308.out) hb)
            have n6_ := a0_ (below_step (by repeat (first | (with_reducible first | exact HB.out | apply b1_ | apply b2_ | apply b3_ | refine b4_ ?_ GE284.out | refine b4_ ?_ GE289.out | refine b4_ ?_ GE308.out) | exact HB.out)) hb)
            have n7_ := a0_ (hbox)
            have n8_ := a0_ ((by rw [hg]; exact (below_size (by repeat (first | (with_reducible first | exact HB.out | apply b1_ | apply b2_ | apply b3_ | refine b4_ ?_ GE284.out | refine b4_ ?_ GE289.out | refine b4_ ?_ GE308.out) | exact HB.out))) : w.heap.size ≤ gb309))
            have n9_ := a0_ ((by rw [hg]; exact (below_size (by repeat (first | (with_reducible first | exact HB.out | apply b1_ | apply b2_ | apply b3_ | refine b4_ ?_ GE284.out | refine b4_ ?_ GE289.out | refine b4_ ?_ GE308.out) | exact HB.out))) : w.heap.size ≤ gb309))
            have n10_ := a0_ ((by rw [hg]; exact Nat.ne_of_lt (blk_lt (g := gb284) (o := .cells #[.bool true, .slice A0_1 l0_1.length c0_1] 29 (0, 0)) (by (with_reducible repeat (first | refine k1_ ?_ _ | refine k2_ ?_ | refine k3_ ?_ _)); exact BK284.out)) : gb284 ≠ gb309))
            have n11_ := a0_ ((by rw [hg]; exact Nat.ne_of_gt (blk_lt (g := gb284) (o := .cells #[.bool true, .slice A0_1 l0_1.length c0_1] 29 (0, 0)) (by (with_reducible repeat (first | refine k1_ ?_ _ | refine k2_ ?_ | refine k3_ ?_ _)); exact BK284.out)) : gb309 ≠ gb284))
            have n12_ := a0_ ((by rw [hg]; exact Nat.ne_of_lt (blk_lt (g := gb289) (o := .cells #[.bool t285, .slice Ao10 t286.length co10] 29 (0, 0)) (by (with_reducible repeat (first | refine k1_ ?_ _ | refine k2_ ?_ | refine k3_ ?_ _)); exact BK289.out)) : gb289 ≠ gb309))
            have n13_ := a0_ ((by rw [hg]; exact Nat.ne_of_gt (blk_lt (g := gb289) (o := .cells #[.bool t285, .slice Ao10 t286.length co10] 29 (0, 0)) (by (with_reducible repeat (first | refine k1_ ?_ _ | refine k2_ ?_ | refine k3_ ?_ _)); exact BK289.out)) : gb309 ≠ gb289))
            have n14_ := a0_ ((by rw [hg]; exact Nat.ne_of_lt (blk_lt (g := gb308) (o := .cells #[.bool false, .slice none 0 0] 29 (0, 0)) (by (with_reducible repeat (first | refine k1_ ?_ _ | refine k2_ ?_ | refine k3_ ?_ _)); exact BK308.out)) : gb308 ≠ gb309))
            have n15_ := a0_ ((by rw [hg]; exact Nat.ne_of_gt (blk_lt (g := gb308) (o := .cells #[.bool false, .slice none 0 0] 29 (0, 0)) (by (with_reducible repeat (first | refine k1_ ?_ _ | refine k2_ ?_ | refine k3_ ?_ _)); exact BK308.out)) : gb309 ≠ gb308))
            clear HO_285001
            clear HO_290001
            clear HO299
            clear BK284
            clear BK289
            clear BK308
            clear HB
            have HO_285001 := n0_
            have HO_290001 := n1_
            have HO299 := n2_
            have BK284 := n3_
            have BK289 := n4_
            have BK308 := n5_
            have HB := n6_
            have BK309 := n7_
            have GW309 := n8_
            have GE309 := n9_
            have NB284_309 := n10_
            have NB309_284 := n11_
            have NB289_309 := n12_
            have NB309_289 := n13_
            have NB308_309 := n14_
            have NB309_308 := n15_
            clear n0_ n1_ n2_ n3_ n4_ n5_ n6_ n7_ n8_ n9_ n10_ n11_ n12_ n13_ n14_ n15_
            clear hb hbox hg
            refine hK.out _ _ ⟨(blk_cell BK284.out 0).trans rfl, (blk_cell BK284.out 1).trans rfl⟩ (fun hHeld => ?_)
            clear hK K
            refine norm_ (a' := ?_) ?_ ?_
            rotate_left
            ·
             show Act.put _ (some 9) _ = _
             simp only [Act.put, s1_, s2_, s3_, i64_w, i32_w]
             rfl
            exact norm_ (by first | (simp only [putAll, Act.put, s1_, s2_, s3_]; done) | (simp only [putAll, Act.put, s1_, s2_, s3_]; rfl)) (hJ3_8_9 ((.slice Ao36 t297.length co36), gb308, gb309) _ ⟨hHeld, (by (with_reducible repeat (first | apply v1_ | apply v2_ | apply v3_)); exact v4_ HO299.out (fun _ hk => ⟨hk.1.1, ⟨hk.1.2.1, ⟨hk.1.2.2.1, ⟨hk.1.2.2.2, hk.2⟩⟩⟩⟩)), (by (with_reducible repeat (first | apply v1_ | apply v2_ | apply v3_)); exact v4_ HO_285001.out (fun _ hk => ⟨hk.1.1, ⟨hk.1.2.1, ⟨hk.1.2.2.1, ⟨hk.1.2.2.2, hk.2⟩⟩⟩⟩)), (by (with_reducible repeat (first | apply v1_ | apply v2_ | apply v3_)); exact v4_ HO_290001.out (fun _ hk => ⟨hk.1.1, ⟨hk.1.2.1, ⟨hk.1.2.2.1, ⟨hk.1.2.2.2, hk.2⟩⟩⟩⟩)), (by (with_reducible repeat (first | refine k1_ ?_ _ | refine k2_ ?_ | refine k3_ ?_ _)); exact BK284.out), (by (with_reducible repeat (first | refine k1_ ?_ _ | refine k2_ ?_ | refine k3_ ?_ _)); exact BK289.out), (by (with_reducible repeat (first | refine k1_ ?_ _ | refine k2_ ?_ | refine k3_ ?_ _)); exact BK308.out), (by (with_reducible repeat (first | refine k1_ ?_ _ | refine k2_ ?_ | refine k3_ ?_ _)); exact BK309.out), GW308.out, GE308.out, NB284_308.out, NB308_284.out, NB289_308.out, NB308_289.out, NB309_308.out, NB308_309.out, GW309.out, GE309.out, NB284_309.out, NB309_284.out, NB289_309.out, NB309_289.out, (by repeat (first | (with_reducible first | exact HB.out | apply b1_ | apply b2_ | apply b3_ | refine b4_ ?_ GE284.out | refine b4_ ?_ GE289.out | refine b4_ ?_ GE308.out | refine b4_ ?_ GE309.out) | exact HB.out))⟩)
         ·
          skip
          rintro ⟨v298, v302, v306⟩ w36 ⟨hS_, h0_, h1_, h2_, h3_, h4_, h5_, h6_, h7_⟩
          have n0_ : Aside0 (Kd.V (Kd.int .u32) 96 w36 w.heap.size (fun k_ => (P0_1_ k_ ∨ w.heap.size ≤ k_) ∧ k_ ≠ gb284 ∧ k_ ≠ gb289) v298 t297) := ⟨h0_⟩
          have n1_ : Aside0 (Kd.V (Kd.int .u32) 96 w36 w.heap.size (fun k_ => (P0_1_ k_ ∨ w.heap.size ≤ k_) ∧ k_ ≠ gb284 ∧ k_ ≠ gb289) v302 t301) := ⟨h1_⟩
          have n2_ : Aside0 (Kd.V (Kd.int .u32) 96 w36 w.heap.size (fun k_ => (P0_1_ k_ ∨ w.heap.size ≤ k_) ∧ k_ ≠ gb284 ∧ k_ ≠ gb289) v306 t305) := ⟨h2_⟩
          have n3_ : Aside0 (Kd.V (Kd.int .u32) 96 w36 w.heap.size (fun k_ => (P0_1_ k_ ∨ w.heap.size ≤ k_) ∧ k_ ≠ gb284 ∧ k_ ≠ gb289) (.slice A0_1 l0_1.length c0_1) l0_1) := ⟨h3_⟩
          have n4_ : Aside0 (Kd.V (Kd.int .u32) 96 w36 w.heap.size (fun k_ => (P0_1_ k_ ∨ w.heap.size ≤ k_) ∧ k_ ≠ gb284 ∧ k_ ≠ gb289) (.slice Ao10 t286.length co10) t286) := ⟨h4_⟩
          have n5_ : Aside0 (w36.heap[gb284]? = some (.cells #[.bool true, .slice A0_1 l0_1.length c0_1] 29 (0, 0))) := ⟨h5_⟩
          have n6_ : Aside0 (w36.heap[gb289]? = some (.cells #[.bool t285, .slice Ao10 t286.length co10] 29 (0, 0))) := ⟨h6_⟩
          have n7_ : Aside0 (Below w.heap.size w w36) := ⟨h7_⟩
          clear HO_285001
          clear HO_290001
          clear BK284
          clear BK289
          clear HB
          clear h0_ h1_ h2_ h3_ h4_ h5_ h6_ h7_
          have HO299 := n0_
          have HO303 := n1_
          have HO307 := n2_
          have HO_285001 := n3_
          have HO_290001 := n4_
          have BK284 := n5_
          have BK289 := n6_
          have HB := n7_
          clear n0_ n1_ n2_ n3_ n4_ n5_ n6_ n7_
          have hHeld : w36.cell? ⟨gb284, 0, none⟩ = some (.bool true) ∧ w36.cell? ⟨gb284, 1, none⟩ = some (.slice A0_1 l0_1.length c0_1) := hS_
          refine norm_ (a' := ?_) ?_ ?_
          rotate_left
          ·
           simp only [putAll, Act.put, s1_, s2_, s3_]
           rfl
          refine two_ (i := 8) (j := 9) (Ni := some 8) (Nj := some 9) #[true, true, true, true, true, true, true, true, true, false, false, false] #[true, true, true, true, true, true, true, true, false, true, false, false] rfl rfl rfl rfl (two_of HT_.out (by kernel_rfl)) (by decide) (by decide) (fun K hK => ?_) (fun K hK => ?_)
          ·
           skip
           refine box_step ?hg (N := 8) ?hd (cs := #[.bool false, .slice none 0 0]) (t := 29) ?hr ?_; (case hd => rfl); (case hg => rfl); (case hr => first | (go_simp; done) | (go_simp; rfl))
           intro gb308 hg w37 hbox hb
           have n0_ := a0_ (Kd.V_below (Kd.V_elderB (by (with_reducible repeat (first | apply v1_ | apply v2_ | apply v3_)); exact HO_285001.out) gb308 (Nat.le_of_eq hg.symm)) hb)
           have n1_ := a0_ (Kd.V_below (Kd.V_elderB (by (with_reducible repeat (first | apply v1_ | apply v2_ | apply v3_)); exact HO_290001.out) gb308 (Nat.le_of_eq hg.symm)) hb)
           have n2_ := a0_ (Kd.V_below (Kd.V_elderB (by (with_reducible repeat (first | apply v1_ | apply v2_ | apply v3_)); exact HO299.out) gb308 (Nat.le_of_eq hg.symm)) hb)
           have n3_ := a0_ (Kd.V_below (Kd.V_elderB (by (with_reducible repeat (first | apply v1_ | apply v2_ | apply v3_)); exact HO303.out) gb308 (Nat.le_of_eq hg.symm)) hb)
           have n4_ := a0_ (Kd.V_below (Kd.V_elderB (by (with_reducible repeat (first | apply v1_ | apply v2_ | apply v3_)); exact HO307.out) gb308 (Nat.le_of_eq hg.symm)) hb)
           have n5_ := a0_ (blk_below (g := gb284) (o := .cells #[.bool true, .slice A0_1 l0_1.length c0_1] 29 (0, 0)) (by (with_reducible repeat (first | refine k1_ ?_ _ | refine k2_ ?_ | refine k3_ ?_ _)); exact BK284.out) hb)
           have n6_ := a0_ (blk_below (g := gb289) (o := .cells #[.bool t285, .slice Ao10 t286.length co10] 29 (0, 0)) (by (with_reducible repeat (first | refine k1_ ?_ _ | refine k2_ ?_ | refine k3_ ?_ _)); exact BK289.out) hb)
           have n7_ := a0_ (below_step (by repeat (first | (with_reducible first | exact HB.out | apply b1_ | apply b2_ | apply b3_ | refine b4_ ?_ GE284.out | refine b4_ ?_ GE289.out) | exact HB.out)) hb)
           have n8_ := a0_ (hbox)
           have n9_ := a0_ ((by rw [hg]; exact (below_size (by repeat (first | (with_reducible first | exact HB.out | apply b1_ | apply b2_ | apply b3_ | refine b4_ ?_ GE284.out | refine b4_ ?_ GE289.out) | exact HB.out))) : w.heap.size ≤ gb308))
           have n10_ := a0_ ((by rw [hg]; exact (below_size (by repeat (first | (with_reducible first | exact HB.out | apply b1_ | apply b2_ | apply b3_ | refine b4_ ?_ GE284.out | refine b4_ ?_ GE289.out) | exact HB.out))) : w.heap.size ≤ gb308))
           have n11_ := a0_ ((by rw [hg]; exact Nat.ne_of_lt (blk_lt (g := gb284) (o := .cells #[.bool true, .slice A0_1 l0_1.length c0_1] 29 (0, 0)) (by (with_reducible repeat (first | refine k1_ ?_ _ | refine k2_ ?_ | refine k3_ ?_ _)); exact BK284.out)) : gb284 ≠ gb308))
           have n12_ := a0_ ((by rw [hg]; exact Nat.ne_of_gt (blk_lt (g := gb284) (o := .cells #[.bool true, .slice A0_1 l0_1.length c0_1] 29 (0, 0)) (by (with_reducible repeat (first | refine k1_ ?_ _ | refine k2_ ?_ | refine k3_ ?_ _)); exact BK284.out)) : gb308 ≠ gb284))
           have n13_ := a0_ ((by rw [hg]; exact Nat.ne_of_lt (blk_lt (g := gb289) (o := .cells #[.bool t285, .slice Ao10 t286.length co10] 29 (0, 0)) (by (with_reducible repeat (first | refine k1_ ?_ _ | refine k2_ ?_ | refine k3_ ?_ _)); exact BK289.out)) : gb289 ≠ gb308))
           have n14_ := a0_ ((by rw [hg]; exact Nat.ne_of_gt (blk_lt (g := gb289) (o := .cells #[.bool t285, .slice Ao10 t286.length co10] 29 (0, 0)) (by (with_reducible repeat (first | refine k1_ ?_ _ | refine k2_ ?_ | refine k3_ ?_ _)); exact BK289.out)) : gb308 ≠ gb289))
           clear HO_285001
           clear HO_290001
           clear HO299
           clear HO303
           clear HO307
           clear BK284
           clear BK289
           clear HB
           have HO_285001 := n0_
           have HO_290001 := n1_
           have HO299 := n2_
           have HO303 := n3_
           have HO307 := n4_
           have BK284 := n5_
           have BK289 := n6_
           have HB := n7_
           have BK308 := n8_
           have GW308 := n9_
           have GE308 := n10_
           have NB284_308 := n11_
           have NB308_284 := n12_
           have NB289_308 := n13_
           have NB308_289 := n14_
           clear n0_ n1_ n2_ n3_ n4_ n5_ n6_ n7_ n8_ n9_ n10_ n11_ n12_ n13_ n14_
           clear hb hbox hg
           refine hK.out _ _ ⟨(blk_cell BK284.out 0).trans rfl, (blk_cell BK284.out 1).trans rfl⟩ (fun hHeld => ?_)
           clear hK K
           refine norm_ (a' := ?_) ?_ ?_
           rotate_left
           ·
            show Act.put _ (some 8) _ = _
            simp only [Act.put, s1_, s2_, s3_, i64_w, i32_w]
            rfl
           exact norm_ (by first | (simp only [putAll, Act.put, s1_, s2_, s3_]; done) | (simp only [putAll, Act.put, s1_, s2_, s3_]; rfl)) (hJ3_4_8 (v298, v302, v306, gb308) _ ⟨hHeld, (by (with_reducible repeat (first | apply v1_ | apply v2_ | apply v3_)); exact v4_ HO299.out (fun _ hk => ⟨hk.1.1, ⟨hk.1.2.1, ⟨hk.1.2.2, hk.2⟩⟩⟩)), (by (with_reducible repeat (first | apply v1_ | apply v2_ | apply v3_)); exact v4_ HO303.out (fun _ hk => ⟨hk.1.1, ⟨hk.1.2.1, ⟨hk.1.2.2, hk.2⟩⟩⟩)), (by (with_reducible repeat (first | apply v1_ | apply v2_ | apply v3_)); exact v4_ HO307.out (fun _ hk => ⟨hk.1.1, ⟨hk.1.2.1, ⟨hk.1.2.2, hk.2⟩⟩⟩)), (by (with_reducible repeat (first | apply v1_ | apply v2_ | apply v3_)); exact v4_ HO_285001.out (fun _ hk => ⟨hk.1.1, ⟨hk.1.2.1, ⟨hk.1.2.2, hk.2⟩⟩⟩)), (by (with_reducible repeat (first | apply v1_ | apply v2_ | apply v3_)); exact v4_ HO_290001.out (fun _ hk => ⟨hk.1.1, ⟨hk.1.2.1, ⟨hk.1.2.2, hk.2⟩⟩⟩)), (by (with_reducible repeat (first | refine k1_ ?_ _ | refine k2_ ?_ | refine k3_ ?_ _)); exact BK284.out), (by (with_reducible repeat (first | refine k1_ ?_ _ | refine k2_ ?_ | refine k3_ ?_ _)); exact BK289.out), (by (with_reducible repeat (first | refine k1_ ?_ _ | refine k2_ ?_ | refine k3_ ?_ _)); exact BK308.out), GW308.out, GE308.out, NB284_308.out, NB308_284.out, NB289_308.out, NB308_289.out, (by repeat (first | (with_reducible first | exact HB.out | apply b1_ | apply b2_ | apply b3_ | refine b4_ ?_ GE284.out | refine b4_ ?_ GE289.out | refine b4_ ?_ GE308.out) | exact HB.out))⟩)
          ·
           skip
           refine box_step ?hg (N := 9) ?hd (cs := #[.bool false, .slice none 0 0]) (t := 29) ?hr ?_; (case hd => rfl); (case hg => rfl); (case hr => first | (go_simp; done) | (go_simp; rfl))
           intro gb309 hg w37 hbox hb
           have n0_ := a0_ (Kd.V_below (Kd.V_elderB (by (with_reducible repeat (first | apply v1_ | apply v2_ | apply v3_)); exact HO_285001.out) gb309 (Nat.le_of_eq hg.symm)) hb)
           have n1_ := a0_ (Kd.V_below (Kd.V_elderB (by (with_reducible repeat (first | apply v1_ | apply v2_ | apply v3_)); exact HO_290001.out) gb309 (Nat.le_of_eq hg.symm)) hb)
           have n2_ := a0_ (Kd.V_below (Kd.V_elderB (by (with_reducible repeat (first | apply v1_ | apply v2_ | apply v3_)); exact HO299.out) gb309 (Nat.le_of_eq hg.symm)) hb)
           have n3_ := a0_ (Kd.V_below (Kd.V_elderB (by (with_reducible repeat (first | apply v1_ | apply v2_ | apply v3_)); exact HO303.out) gb309 (Nat.le_of_eq hg.symm)) hb)
           have n4_ := a0_ (Kd.V_below (Kd.V_elderB (by (with_reducible repeat (first | apply v1_ | apply v2_ | apply v3_)); exact HO307.out) gb309 (Nat.le_of_eq hg.symm)) hb)
           have n5_ := a0_ (blk_below (g := gb284) (o := .cells #[.bool true, .slice A0_1 l0_1.length c0_1] 29 (0, 0)) (by (with_reducible repeat (first | refine k1_ ?_ _ | refine k2_ ?_ | refine k3_ ?_ _)); exact BK284.out) hb)
           have n6_ := a0_ (blk_below (g := gb289) (o := .cells #[.bool t285, .slice Ao10 t286.length co10] 29 (0, 0)) (by (with_reducible repeat (first | refine k1_ ?_ _ | refine k2_ ?_ | refine k3_ ?_ _)); exact BK289.out) hb)
           have n7_ := a0_ (below_step (by repeat (first | (with_reducible first | exact HB.out | apply b1_ | apply b2_ | apply b3_ | refine b4_ ?_ GE284.out | refine b4_ ?_ GE289.out) | exact HB.out)) hb)
           have n8_ := a0_ (hbox)
           have n9_ := a0_ ((by rw [hg]; exact (below_size (by repeat (first | (with_reducible first | exact HB.out | apply b1_ | apply b2_ | apply b3_ | refine b4_ ?_ GE284.out | refine b4_ ?_ GE289.out) | exact HB.out))) : w.heap.size ≤ gb309))
           have n10_ := a0_ ((by rw [hg]; exact (below_size (by repeat (first | (with_reducible first | exact HB.out | apply b1_ | apply b2_ | apply b3_ | refine b4_ ?_ GE284.out | refine b4_ ?_ GE289.out) | exact HB.out))) : w.heap.size ≤ gb309))
           have n11_ := a0_ ((by rw [hg]; exact Nat.ne_of_lt (blk_lt (g := gb284) (o := .cells #[.bool true, .slice A0_1 l0_1.length c0_1] 29 (0, 0)) (by (with_reducible repeat (first | refine k1_ ?_ _ | refine k2_ ?_ | refine k3_ ?_ _)); exact BK284.out)) : gb284 ≠ gb309))
           have n12_ := a0_ ((by rw [hg]; exact Nat.ne_of_gt (blk_lt (g := gb284) (o := .cells #[.bool true, .slice A0_1 l0_1.length c0_1] 29 (0, 0)) (by (with_reducible repeat (first | refine k1_ ?_ _ | refine k2_ ?_ | refine k3_ ?_ _)); exact BK284.out)) : gb309 ≠ gb284))
           have n13_ := a0_ ((by rw [hg]; exact Nat.ne_of_lt (blk_lt (g := gb289) (o := .cells #[.bool t285, .slice Ao10 t286.length co10] 29 (0, 0)) (by (with_reducible repeat (first | refine k1_ ?_ _ | refine k2_ ?_ | refine k3_ ?_ _)); exact BK289.out)) : gb289 ≠ gb309))
           have n14_ := a0_ ((by rw [hg]; exact Nat.ne_of_gt (blk_lt (g := gb289) (o := .cells #[.bool t285, .slice Ao10 t286.length co10] 29 (0, 0)) (by (with_reducible repeat (first | refine k1_ ?_ _ | refine k2_ ?_ | refine k3_ ?_ _)); exact BK289.out)) : gb309 ≠ gb289))
           clear HO_285001
           clear HO_290001
           clear HO299
           clear HO303
           clear HO307
           clear BK284
           clear BK289
           clear HB
           have HO_285001 := n0_
           have HO_290001 := n1_
           have HO299 := n2_
           have HO303 := n3_
           have HO307 := n4_
           have BK284 := n5_
           have BK289 := n6_
           have HB := n7_
           have BK309 := n8_
           have GW309 := n9_
           have GE309 := n10_
           have NB284_309 := n11_
           have NB309_284 := n12_
           have NB289_309 := n13_
           have NB309_289 := n14_
           clear n0_ n1_ n2_ n3_ n4_ n5_ n6_ n7_ n8_ n9_ n10_ n11_ n12_ n13_ n14_
           clear hb hbox hg
           refine hK.out _ _ ⟨(blk_cell BK284.out 0).trans rfl, (blk_cell BK284.out 1).trans rfl⟩ (fun hHeld => ?_)
           clear hK K
           refine norm_ (a' := ?_) ?_ ?_
           rotate_left
           ·
            show Act.put _ (some 9) _ = _
            simp only [Act.put, s1_, s2_, s3_, i64_w, i32_w]
            rfl
           exact norm_ (by first | (simp only [putAll, Act.put, s1_, s2_, s3_]; done) | (simp only [putAll, Act.put, s1_, s2_, s3_]; rfl)) (hJ3_4_9 (v298, v302, v306, gb309) _ ⟨hHeld, (by (with_reducible repeat (first | apply v1_ | apply v2_ | apply v3_)); exact v4_ HO299.out (fun _ hk => ⟨hk.1.1, ⟨hk.1.2.1, ⟨hk.1.2.2, hk.2⟩⟩⟩)), (by (with_reducible repeat (first | apply v1_ | apply v2_ | apply v3_)); exact v4_ HO303.out (fun _ hk => ⟨hk.1.1, ⟨hk.1.2.1, ⟨hk.1.2.2, hk.2⟩⟩⟩)), (by (with_reducible repeat (first | apply v1_ | apply v2_ | apply v3_)); exact v4_ HO307.out (fun _ hk => ⟨hk.1.1, ⟨hk.1.2.1, ⟨hk.1.2.2, hk.2⟩⟩⟩)), (by (with_reducible repeat (first | apply v1_ | apply v2_ | apply v3_)); exact v4_ HO_285001.out (fun _ hk => ⟨hk.1.1, ⟨hk.1.2.1, ⟨hk.1.2.2, hk.2⟩⟩⟩)), (by (with_reducible repeat (first | apply v1_ | apply v2_ | apply v3_)); exact v4_ HO_290001.out (fun _ hk => ⟨hk.1.1, ⟨hk.1.2.1, ⟨hk.1.2.2, hk.2⟩⟩⟩)), (by (with_reducible repeat (first | refine k1_ ?_ _ | refine k2_ ?_ | refine k3_ ?_ _)); exact BK284.out), (by (with_reducible repeat (first | refine k1_ ?_ _ | refine k2_ ?_ | refine k3_ ?_ _)); exact BK289.out), (by (with_reducible repeat (first | refine k1_ ?_ _ | refine k2_ ?_ | refine k3_ ?_ _)); exact BK309.out), GW309.out, GE309.out, NB284_309.out, NB309_284.out, NB289_309.out, NB309_289.out, (by repeat (first | (with_reducible first | exact HB.out | apply b1_ | apply b2_ | apply b3_ | refine b4_ ?_ GE284.out | refine b4_ ?_ GE289.out | refine b4_ ?_ GE309.out) | exact HB.out))⟩)
        ·
         skip
         rintro ⟨v298, gb308, gb309⟩ w36 ⟨hS_, h0_, h1_, h2_, h3_, h4_, h5_, h6_, h7_, h8_, h9_, h10_, h11_, h12_, h13_, h14_, h15_, h16_, h17_, h18_, h19_, h20_, h21_⟩
         have n0_ : Aside0 (Kd.V (Kd.int .u32) 96 w36 w.heap.size (fun k_ => (P0_1_ k_ ∨ w.heap.size ≤ k_) ∧ k_ ≠ gb284 ∧ k_ ≠ gb289 ∧ k_ ≠ gb308 ∧ k_ ≠ gb309) v298 t297) := ⟨h0_⟩
         have n1_ : Aside0 (Kd.V (Kd.int .u32) 96 w36 w.heap.size (fun k_ => (P0_1_ k_ ∨ w.heap.size ≤ k_) ∧ k_ ≠ gb284 ∧ k_ ≠ gb289 ∧ k_ ≠ gb308 ∧ k_ ≠ gb309) (.slice A0_1 l0_1.length c0_1) l0_1) := ⟨h1_⟩
         have n2_ : Aside0 (Kd.V (Kd.int .u32) 96 w36 w.heap.size (fun k_ => (P0_1_ k_ ∨ w.heap.size ≤ k_) ∧ k_ ≠ gb284 ∧ k_ ≠ gb289 ∧ k_ ≠ gb308 ∧ k_ ≠ gb309) (.slice Ao10 t286.length co10) t286) := ⟨h2_⟩
         have n3_ : Aside0 (w36.heap[gb284]? = some (.cells #[.bool true, .slice A0_1 l0_1.length c0_1] 29 (0, 0))) := ⟨h3_⟩
         have n4_ : Aside0 (w36.heap[gb289]? = some (.cells #[.bool t285, .slice Ao10 t286.length co10] 29 (0, 0))) := ⟨h4_⟩
         have n5_ : Aside0 (w36.heap[gb308]? = some (.cells #[.bool false, .slice none 0 0] 29 (0, 0))) := ⟨h5_⟩
         have n6_ : Aside0 (w36.heap[gb309]? = some (.cells #[.bool false, .slice none 0 0] 29 (0, 0))) := ⟨h6_⟩
         have n7_ : Aside0 (w.heap.size ≤ gb308) := ⟨h7_⟩
         have n8_ : Aside0 (w.heap.size ≤ gb308) := ⟨h8_⟩
         have n9_ : Aside0 (gb284 ≠ gb308) := ⟨h9_⟩
         have n10_ : Aside0 (gb308 ≠ gb284) := ⟨h10_⟩
         have n11_ : Aside0 (gb289 ≠ gb308) := ⟨h11_⟩
         have n12_ : Aside0 (gb308 ≠ gb289) := ⟨h12_⟩
         have n13_ : Aside0 (gb309 ≠ gb308) := ⟨h13_⟩
         have n14_ : Aside0 (gb308 ≠ gb309) := ⟨h14_⟩
         have n15_ : Aside0 (w.heap.size ≤ gb309) := ⟨h15_⟩
         have n16_ : Aside0 (w.heap.size ≤ gb309) := ⟨h16_⟩
         have n17_ : Aside0 (gb284 ≠ gb309) := ⟨h17_⟩
         have n18_ : Aside0 (gb309 ≠ gb284) := ⟨h18_⟩
         have n19_ : Aside0 (gb289 ≠ gb309) := ⟨h19_⟩
         have n20_ : Aside0 (gb309 ≠ gb289) := ⟨h20_⟩
         have n21_ : Aside0 (Below w.heap.size w w36) := ⟨h21_⟩
         clear HO_285001
         clear HO_290001
         clear BK284
         clear BK289
         clear HB
         clear h0_ h1_ h2_ h3_ h4_ h5_ h6_ h7_ h8_ h9_ h10_ h11_ h12_ h13_ h14_ h15_ h16_ h17_ h18_ h19_ h20_ h21_
         have HO299 := n0_
         have HO_285001 := n1_
         have HO_290001 := n2_
         have BK284 := n3_
         have BK289 := n4_
         have BK308 := n5_
         have BK309 := n6_
         have GW308 := n7_
         have GE308 := n8_
         have NB284_308 := n9_
         have NB308_284 := n10_
         have NB289_308 := n11_
         have NB308_289 := n12_
         have NB309_308 := n13_
         have NB308_309 := n14_
         have GW309 := n15_
         have GE309 := n16_
         have NB284_309 := n17_
         have NB309_284 := n18_
         have NB289_309 := n19_
         have NB309_289 := n20_
         have HB := n21_
         clear n0_ n1_ n2_ n3_ n4_ n5_ n6_ n7_ n8_ n9_ n10_ n11_ n12_ n13_ n14_ n15_ n16_ n17_ n18_ n19_ n20_ n21_
         have hHeld : w36.cell? ⟨gb284, 0, none⟩ = some (.bool true) ∧ w36.cell? ⟨gb284, 1, none⟩ = some (.slice A0_1 l0_1.length c0_1) := hS_
         obtain ⟨Ao37, co37, eo37⟩ := Kd.V_slice HO299.out
         (first | subst eo37 | (injection eo37 with f1_ f2_ f3_; have f4_ := f1_.symm; have f5_ := f3_.symm; clear f1_ f2_ f3_; subst f4_; subst f5_))
         refine norm_ (a' := ?_) ?_ ?_
         rotate_left
         ·
          simp only [putAll, Act.put, s1_, s2_, s3_]
          rfl
         refine one_ (i := 4) (N := some 35) #[true, true, true, true, true, false, false, false, true, true, false, false] rfl rfl (one_of HT_.out (by kernel_rfl)) (by decide) (fun K hK => ?_)
         refine goes_ Try.func11 (by kernel_rfl) rfl #[.agg #[.bool true, .slice A0_1 l0_1.length c0_1], .agg #[.bool t296, .slice Ao37 t297.length co37]] (by rfl) rfl rfl (by (try simp only [List.map_toArray, List.map_cons, List.map_nil]); first | done | rfl | (simp only [List.length_drop, List.length_take]; rfl)) ?_
         with_reducible refine (spec_WideDiv.calls kj3 true _ _ l0_1 t296 _ _ t297 t300 t301 t304 t305 _ ?side1 ?side2 ?side3 ?side4 A29.out).mono ?_
         (case side1 => repeat (first | exact (Kd.V_reads' HO_285001.out).2.2 | (with_reducible refine Kd.C_alloc ?_ _) | (with_reducible refine Kd.C_drewN ?_ _) | (with_reducible refine Kd.C_drew ?_)))
         (case side2 => exact (Kd.V_reads' HO_285001.out).2.1)
         (case side3 => repeat (first | exact (Kd.V_reads' HO299.out).2.2 | (with_reducible refine Kd.C_alloc ?_ _) | (with_reducible refine Kd.C_drewN ?_ _) | (with_reducible refine Kd.C_drew ?_)))
         (case side4 => exact (Kd.V_reads' HO299.out).2.1)
         rintro e w38 ⟨v302, v306, rfl, ho0, ho1, hb⟩
         refine ⟨_, rfl, ?_⟩
         have n0_ := a0_ (Kd.V_below (by (with_reducible repeat (first | apply v1_ | apply v2_ | apply v3_)); exact HO_285001.out) hb)
         have n1_ := a0_ (Kd.V_below (by (with_reducible repeat (first | apply v1_ | apply v2_ | apply v3_)); exact HO_290001.out) hb)
         have n2_ := a0_ (Kd.V_below (by (with_reducible repeat (first | apply v1_ | apply v2_ | apply v3_)); exact HO299.out) hb)
         have n3_ := a0_ (Kd.V_lower (v4_ (ok' := fun k_ => (P0_1_ k_ ∨ w.heap.size ≤ k_) ∧ k_ ≠ gb284 ∧ k_ ≠ gb289 ∧ k_ ≠ gb308 ∧ k_ ≠ gb309) ho0 (fun k_ hk_ => ⟨(.inr (Nat.le_trans (below_size (by repeat (first | (with_reducible first | exact HB.out | apply b1_ | apply b2_ | apply b3_ | refine b4_ ?_ GE284.out | refine b4_ ?_ GE289.out | refine b4_ ?_ GE308.out | refine b4_ ?_ GE309.out) | exact HB.out))) hk_)), (Kd.freshB (g := gb284) (o := .cells #[.bool true, .slice A0_1 l0_1.length c0_1] 29 (0, 0)) (by (with_reducible repeat (first | refine k1_ ?_ _ | refine k2_ ?_ | refine k3_ ?_ _)); exact BK284.out) k_ hk_), (Kd.freshB (g := gb289) (o := .cells #[.bool t285, .slice Ao10 t286.length co10] 29 (0, 0)) (by (with_reducible repeat (first | refine k1_ ?_ _ | refine k2_ ?_ | refine k3_ ?_ _)); exact BK289.out) k_ hk_), (Kd.freshB (g := gb308) (o := .cells #[.bool false, .slice none 0 0] 29 (0, 0)) (by (with_reducible repeat (first | refine k1_ ?_ _ | refine k2_ ?_ | refine k3_ ?_ _)); exact BK308.out) k_ hk_), (Kd.freshB (g := gb309) (o := .cells #[.bool false, .slice none 0 0] 29 (0, 0)) (by (with_reducible repeat (first | refine k1_ ?_ _ | refine k2_ ?_ | refine k3_ ?_ _)); exact BK309.out) k_ hk_)⟩)) (below_size (by repeat (first | (with_reducible first | exact HB.out | apply b1_ | apply b2_ | apply b3_ | refine b4_ ?_ GE284.out | refine b4_ ?_ GE289.out | refine b4_ ?_ GE308.out | refine b4_ ?_ GE309.out) | exact HB.out))))
         have n4_ := a0_ (Kd.V_lower (v4_ (ok' := fun k_ => (P0_1_ k_ ∨ w.heap.size ≤ k_) ∧ k_ ≠ gb284 ∧ k_ ≠ gb289 ∧ k_ ≠ gb308 ∧ k_ ≠ gb309) ho1 (fun k_ hk_ => ⟨(.inr (Nat.le_trans (below_size (by repeat (first | (with_reducible first | exact HB.out | apply b1_ | apply b2_ | apply b3_ | refine b4_ ?_ GE284.out | refine b4_ ?_ GE289.out | refine b4_ ?_ GE308.out | refine b4_ ?_ GE309.out) | exact HB.out))) hk_)), (Kd.freshB (g := gb284) (o := .cells #[.bool true, .slice A0_1 l0_1.length c0_1] 29 (0, 0)) (by (with_reducible repeat (first | refine k1_ ?_ _ | refine k2_ ?_ | refine k3_ ?_ _)); exact BK284.out) k_ hk_), (Kd.freshB (g := gb289) (o := .cells #[.bool t285, .slice Ao10 t286.length co10] 29 (0, 0)) (by (with_reducible repeat (first | refine k1_ ?_ _ | refine k2_ ?_ | refine k3_ ?_ _)); exact BK289.out) k_ hk_), (Kd.freshB (g := gb308) (o := .cells #[.bool false, .slice none 0 0] 29 (0, 0)) (by (with_reducible repeat (first | refine k1_ ?_ _ | refine k2_ ?_ | refine k3_ ?_ _)); exact BK308.out) k_ hk_), (Kd.freshB (g := gb309) (o := .cells #[.bool false, .slice none 0 0] 29 (0, 0)) (by (with_reducible repeat (first | refine k1_ ?_ _ | refine k2_ ?_ | refine k3_ ?_ _)); exact BK309.out) k_ hk_)⟩)) (below_size (by repeat (first | (with_reducible first | exact HB.out | apply b1_ | apply b2_ | apply b3_ | refine b4_ ?_ GE284.out | refine b4_ ?_ GE289.out | refine b4_ ?_ GE308.out | refine b4_ ?_ GE309.out) | exact HB.out))))
         have n5_ := a0_ (blk_below (g := gb284) (o := .cells #[.bool true, .slice A0_1 l0_1.length c0_1] 29 (0, 0)) (by (with_reducible repeat (first | refine k1_ ?_ _ | refine k2_ ?_ | refine k3_ ?_ _)); exact BK284.out) hb)
         have n6_ := a0_ (blk_below (g := gb289) (o := .cells #[.bool t285, .slice Ao10 t286.length co10] 29 (0, 0)) (by (with_reducible repeat (first | refine k1_ ?_ _ | refine k2_ ?_ | refine k3_ ?_ _)); exact BK289.out) hb)
         have n7_ := a0_ (blk_below (g := gb308) (o := .cells #[.bool false, .slice none 0 0] 29 (0, 0)) (by (with_reducible repeat (first | refine k1_ ?_ _ | refine k2_ ?_ | refine k3_ ?_ _)); exact BK308.out) hb)
         have n8_ := a0_ (blk_below (g := gb309) (o := .cells #[.bool false, .slice none 0 0] 29 (0, 0)) (by (with_reducible repeat (first | refine k1_ ?_ _ | refine k2_ ?_ | refine k3_ ?_ _)); exact BK309.out) hb)
         have n9_ := a0_ (below_step (by repeat (first | (with_reducible first | exact HB.out | apply b1_ | apply b2_ | apply b3_ | refine b4_ ?_ GE284.out | refine b4_ ?_ GE289.out | refine b4_ ?_ GE308.out | refine b4_ ?_ GE309.out) | exact HB.out)) hb)
         clear HO_285001
         clear HO_290001
         clear HO299
         clear BK284
         clear BK289
         clear BK308
         clear BK309
         clear HB
         have HO_285001 := n0_
         have HO_290001 := n1_
         have HO299 := n2_
         have HO303 := n3_
         have HO307 := n4_
         have BK284 := n5_
         have BK289 := n6_
         have BK308 := n7_
         have BK309 := n8_
         have HB := n9_
         clear n0_ n1_ n2_ n3_ n4_ n5_ n6_ n7_ n8_ n9_
         (try clear hb)
         (try clear hb2)
         (try clear hk)
         (try clear hi)
         (try clear ho0)
         (try clear ho1)
         refine hK.out _ _ ⟨(blk_cell BK284.out 0).trans rfl, (blk_cell BK284.out 1).trans rfl⟩ (fun hHeld => ?_)
         clear hK K
         refine norm_ (a' := ?_) ?_ ?_
         rotate_left
         ·
          show Act.put _ (some 35) _ = _
          simp only [Act.put, s1_, s2_, s3_, i64_w, i32_w]
          rfl
         refine pure_ (i := 5) (N := some 30) (v := ?_) (a' := ?_) #[true, true, true, true, true, true, false, false, true, true, false, false] rfl rfl (any_of HT_.out (by kernel_rfl)) (fun _ _ _ h => h) (Or.inl ⟨by rfl, ?_⟩) ?_ ?_
         rotate_left
         ·
          intro w'
          go_simp
          with_reducible rfl
         rotate_left
         ·
          simp only [Act.put, s1_, s2_, s3_, i64_w, i32_w]
          rfl
         refine pure_ (i := 6) (N := some 36) (v := ?_) (a' := ?_) #[true, true, true, true, true, true, true, false, true, true, false, false] rfl rfl (any_of HT_.out (by kernel_rfl)) (fun _ _ _ h => h) (Or.inl ⟨by rfl, ?_⟩) ?_ ?_
         rotate_left
         ·
          intro w'
          go_simp
          with_reducible rfl
         rotate_left
         ·
          simp only [Act.put, s1_, s2_, s3_, i64_w, i32_w]
          rfl
         refine pure_ (i := 7) (N := some 37) (v := ?_) (a' := ?_) #[true, true, true, true, true, true, true, true, true, true, false, false] rfl rfl (any_of HT_.out (by kernel_rfl)) (fun _ _ _ h => h) (Or.inl ⟨by rfl, ?_⟩) ?_ ?_
         rotate_left
         ·
          intro w'
          go_simp
          with_reducible rfl
         rotate_left
         ·
          simp only [Act.put, s1_, s2_, s3_, i64_w, i32_w]
          rfl
         exact norm_ (by first | (simp only [putAll, Act.put, s1_, s2_, s3_]; done) | (simp only [putAll, Act.put, s1_, s2_, s3_]; rfl)) (hJ3_4_8_9 (.slice Ao37 t297.length co37, v302, v306, gb308, gb309) _ ⟨hHeld, (by (with_reducible repeat (first | apply v1_ | apply v2_ | apply v3_)); exact HO299.out), (by (with_reducible repeat (first | apply v1_ | apply v2_ | apply v3_)); exact HO303.out), (by (with_reducible repeat (first | apply v1_ | apply v2_ | apply v3_)); exact HO307.out), (by (with_reducible repeat (first | apply v1_ | apply v2_ | apply v3_)); exact HO_285001.out), (by (with_reducible repeat (first | apply v1_ | apply v2_ | apply v3_)); exact HO_290001.out), (by (with_reducible repeat (first | refine k1_ ?_ _ | refine k2_ ?_ | refine k3_ ?_ _)); exact BK284.out), (by (with_reducible repeat (first | refine k1_ ?_ _ | refine k2_ ?_ | refine k3_ ?_ _)); exact BK289.out), (by (with_reducible repeat (first | refine k1_ ?_ _ | refine k2_ ?_ | refine k3_ ?_ _)); exact BK308.out), (by (with_reducible repeat (first | refine k1_ ?_ _ | refine k2_ ?_ | refine k3_ ?_ _)); exact BK309.out), GW308.out, GE308.out, NB284_308.out, NB308_284.out, NB289_308.out, NB308_289.out, NB309_308.out, NB308_309.out, GW309.out, GE309.out, NB284_309.out, NB309_284.out, NB289_309.out, NB309_289.out, (by repeat (first | (with_reducible first | exact HB.out | apply b1_ | apply b2_ | apply b3_ | refine b4_ ?_ GE284.out | refine b4_ ?_ GE289.out | refine b4_ ?_ GE308.out | refine b4_ ?_ GE309.out) | exact HB.out))⟩)
       ·
        skip
        rintro ⟨v298, v302, v306, gb309⟩ w37 ⟨hS_, h0_, h1_, h2_, h3_, h4_, h5_, h6_, h7_, h8_, h9_, h10_, h11_, h12_, h13_, h14_⟩
        have n0_ : Aside0 (Kd.V (Kd.int .u32) 96 w37 w.heap.size (fun k_ => (P0_1_ k_ ∨ w.heap.size ≤ k_) ∧ k_ ≠ gb284 ∧ k_ ≠ gb289 ∧ k_ ≠ gb309) v298 t297) := ⟨h0_⟩
        have n1_ : Aside0 (Kd.V (Kd.int .u32) 96 w37 w.heap.size (fun k_ => (P0_1_ k_ ∨ w.heap.size ≤ k_) ∧ k_ ≠ gb284 ∧ k_ ≠ gb289 ∧ k_ ≠ gb309) v302 t301) := ⟨h1_⟩
        have n2_ : Aside0 (Kd.V (Kd.int .u32) 96 w37 w.heap.size (fun k_ => (P0_1_ k_ ∨ w.heap.size ≤ k_) ∧ k_ ≠ gb284 ∧ k_ ≠ gb289 ∧ k_ ≠ gb309) v306 t305) := ⟨h2_⟩
        have n3_ : Aside0 (Kd.V (Kd.int .u32) 96 w37 w.heap.size (fun k_ => (P0_1_ k_ ∨ w.heap.size ≤ k_) ∧ k_ ≠ gb284 ∧ k_ ≠ gb289 ∧ k_ ≠ gb309) (.slice A0_1 l0_1.length c0_1) l0_1) := ⟨h3_⟩
        have n4_ : Aside0 (Kd.V (Kd.int .u32) 96 w37 w.heap.size (fun k_ => (P0_1_ k_ ∨ w.heap.size ≤ k_) ∧ k_ ≠ gb284 ∧ k_ ≠ gb289 ∧ k_ ≠ gb309) (.slice Ao10 t286.length co10) t286) := ⟨h4_⟩
        have n5_ : Aside0 (w37.heap[gb284]? = some (.cells #[.bool true, .slice A0_1 l0_1.length c0_1] 29 (0, 0))) := ⟨h5_⟩
        have n6_ : Aside0 (w37.heap[gb289]? = some (.cells #[.bool t285, .slice Ao10 t286.length co10] 29 (0, 0))) := ⟨h6_⟩
        have n7_ : Aside0 (w37.heap[gb309]? = some (.cells #[.bool false, .slice none 0 0] 29 (0, 0))) := ⟨h7_⟩
        have n8_ : Aside0 (w.heap.size ≤ gb309) := ⟨h8_⟩
        have n9_ : Aside0 (w.heap.size ≤ gb309) := ⟨h9_⟩
        have n10_ : Aside0 (gb284 ≠ gb309) := ⟨h10_⟩
        have n11_ : Aside0 (gb309 ≠ gb284) := ⟨h11_⟩
        have n12_ : Aside0 (gb289 ≠ gb309) := ⟨h12_⟩
        have n13_ : Aside0 (gb309 ≠ gb289) := ⟨h13_⟩
        have n14_ : Aside0 (Below w.heap.size w w37) := ⟨h14_⟩
        clear HO_285001
        clear HO_290001
        clear BK284
        clear BK289
        clear HB
        clear h0_ h1_ h2_ h3_ h4_ h5_ h6_ h7_ h8_ h9_ h10_ h11_ h12_ h13_ h14_
        have HO299 := n0_
        have HO303 := n1_
        have HO307 := n2_
        have HO_285001 := n3_
        have HO_290001 := n4_
        have BK284 := n5_
        have BK289 := n6_
        have BK309 := n7_
        have GW309 := n8_
        have GE309 := n9_
        have NB284_309 := n10_
        have NB309_284 := n11_
        have NB289_309 := n12_
        have NB309_289 := n13_
        have HB := n14_
        clear n0_ n1_ n2_ n3_ n4_ n5_ n6_ n7_ n8_ n9_ n10_ n11_ n12_ n13_ n14_
        have hHeld : w37.cell? ⟨gb284, 0, none⟩ = some (.bool true) ∧ w37.cell? ⟨gb284, 1, none⟩ = some (.slice A0_1 l0_1.length c0_1) := hS_
        refine norm_ (a' := ?_) ?_ ?_
        rotate_left
        ·
         simp only [putAll, Act.put, s1_, s2_, s3_]
         rfl
        refine one_ (i := 8) (N := some 8) #[true, true, true, true, true, true, true, true, true, true, false, false] rfl rfl (one_of HT_.out (by kernel_rfl)) (by decide) (fun K hK => ?_)
        refine box_step ?hg (N := 8) ?hd (cs := #[.bool false, .slice none 0 0]) (t := 29) ?hr ?_; (case hd => rfl); (case hg => rfl); (case hr => first | (go_simp; done) | (go_simp; rfl))
        intro gb308 hg w38 hbox hb
        have n0_ := a0_ (Kd.V_below (Kd.V_elderB (by (with_reducible repeat (first | apply v1_ | apply v2_ | apply v3_)); exact HO_285001.out) gb308 (Nat.le_of_eq hg.symm)) hb)
        have n1_ := a0_ (Kd.V_below (Kd.V_elderB (by (with_reducible repeat (first | apply v1_ | apply v2_ | apply v3_)); exact HO_290001.out) gb308 (Nat.le_of_eq hg.symm)) hb)
        have n2_ := a0_ (Kd.V_below (Kd.V_elderB (by (with_reducible repeat (first | apply v1_ | apply v2_ | apply v3_)); exact HO299.out) gb308 (Nat.le_of_eq hg.symm)) hb)
        have n3_ := a0_ (Kd.V_below (Kd.V_elderB (by (with_reducible repeat (first | apply v1_ | apply v2_ | apply v3_)); exact HO303.out) gb308 (Nat.le_of_eq hg.symm)) hb)
        have n4_ := a0_ (Kd.V_below (Kd.V_elderB (by (with_reducible repeat (first | apply v1_ | apply v2_ | apply v3_)); exact HO307.out) gb308 (Nat.le_of_eq hg.symm)) hb)
        have n5_ := a0_ (blk_below (g := gb284) (o := .cells #[.bool true, .slice A0_1 l0_1.length c0_1] 29 (0, 0)) (by (with_reducible repeat (first | refine k1_ ?_ _ | refine k2_ ?_ | refine k3_ ?_ _)); exact BK284.out) hb)
        have n6_ := a0_ (blk_below (g := gb289) (o := .cells #[.bool t285, .slice Ao10 t286.length co10] 29 (0, 0)) (by (with_reducible repeat (first | refine k1_ ?_ _ | refine k2_ ?_ | refine k3_ ?_ _)); exact BK289.out) hb)
        have n7_ := a0_ (blk_below (g := gb309) (o := .cells #[.bool false, .slice none 0 0] 29 (0, 0)) (by (with_reducible repeat (first | refine k1_ ?_ _ | refine k2_ ?_ | refine k3_ ?_ _)); exact BK309.out) hb)
        have n8_ := a0_ (below_step (by repeat (first | (with_reducible first | exact HB.out | apply b1_ | apply b2_ | apply b3_ | refine b4_ ?_ GE284.out | refine b4_ ?_ GE289.out | refine b4_ ?_ GE309.out) | exact HB.out)) hb)
        have n9_ := a0_ (hbox)
        have n10_ := a0_ ((by rw [hg]; exact (below_size (by repeat (first | (with_reducible first | exact HB.out | apply b1_ | apply b2_ | apply b3_ | refine b4_ ?_ GE284.out | refine b4_ ?_ GE289.out | refine b4_ ?_ GE309.out) | exact HB.out))) : w.heap.size ≤ gb308))
        have n11_ := a0_ ((by rw [hg]; exact (below_size (by repeat (first | (with_reducible first | exact HB.out | apply b1_ | apply b2_ | apply b3_ | refine b4_ ?_ GE284.out | refine b4_ ?_ GE289.out | refine b4_ ?_ GE309.out) | exact HB.out))) : w.heap.size ≤ gb308))
        have n12_ := a0_ ((by rw [hg]; exact Nat.ne_of_lt (blk_lt (g := gb284) (o := .cells #[.bool true, .slice A0_1 l0_1.length c0_1] 29 (0, 0)) (by (with_reducible repeat (first | refine k1_ ?_ _ | refine k2_ ?_ | refine k3_ ?_ _)); exact BK284.out)) : gb284 ≠ gb308))
        have n13_ := a0_ ((by rw [hg]; exact Nat.ne_of_gt (blk_lt (g := gb284) (o := .cells #[.bool true, .slice A0_1 l0_1.length c0_1] 29 (0, 0)) (by (with_reducible repeat (first | refine k1_ ?_ _ | refine k2_ ?_ | refine k3_ ?_ _)); exact BK284.out)) : gb308 ≠ gb284))
        have n14_ := a0_ ((by rw [hg]; exact Nat.ne_of_lt (blk_lt (g := gb289) (o := .cells #[.bool t285, .slice Ao10 t286.length co10] 29 (0, 0)) (by (with_reducible repeat (first | refine k1_ ?_ _ | refine k2_ ?_ | refine k3_ ?_ _)); exact BK289.out)) : gb289 ≠ gb308))
        have n15_ := a0_ ((by rw [hg]; exact Nat.ne_of_gt (blk_lt (g := gb289) (o := .cells #[.bool t285, .slice Ao10 t286.length co10] 29 (0, 0)) (by (with_reducible repeat (first | refine k1_ ?_ _ | refine k2_ ?_ | refine k3_ ?_ _)); exact BK289.out)) : gb308 ≠ gb289))
        have n16_ := a0_ ((by rw [hg]; exact Nat.ne_of_lt (blk_lt (g := gb309) (o := .cells #[.bool false, .slice none 0 0] 29 (0, 0)) (by (with_reducible repeat (first | refine k1_ ?_ _ | refine k2_ ?_ | refine k3_ ?_ _)); exact BK309.out)) : gb309 ≠ gb308))
        have n17_ := a0_ ((by rw [hg]; exact Nat.ne_of_gt (blk_lt (g := gb309) (o := .cells #[.bool false, .slice none 0 0] 29 (0, 0)) (by (with_reducible repeat (first | refine k1_ ?_ _ | refine k2_ ?_ | refine k3_ ?_ _)); exact BK309.out)) : gb308 ≠ gb309))
        clear HO_285001
        clear HO_290001
        clear HO299
        clear HO303
        clear HO307
        clear BK284
        clear BK289
        clear BK309
        clear HB
        have HO_285001 := n0_
        have HO_290001 := n1_
        have HO299 := n2_
        have HO303 := n3_
        have HO307 := n4_
        have BK284 := n5_
        have BK289 := n6_
        have BK309 := n7_
        have HB := n8_
        have BK308 := n9_
        have GW308 := n10_
        have GE308 := n11_
        have NB284_308 := n12_
        have NB308_284 := n13_
        have NB289_308 := n14_
        have NB308_289 := n15_
        have NB309_308 := n16_
        have NB308_309 := n17_
        clear n0_ n1_ n2_ n3_ n4_ n5_ n6_ n7_ n8_ n9_ n10_ n11_ n12_ n13_ n14_ n15_ n16_ n17_
        clear hb hbox hg
        refine hK.out _ _ ⟨(blk_cell BK284.out 0).trans rfl, (blk_cell BK284.out 1).trans rfl⟩ (fun hHeld => ?_)
        clear hK K
        refine norm_ (a' := ?_) ?_ ?_
        rotate_left
        ·
         show Act.put _ (some 8) _ = _
         simp only [Act.put, s1_, s2_, s3_, i64_w, i32_w]
         rfl
        exact norm_ (by first | (simp only [putAll, Act.put, s1_, s2_, s3_]; done) | (simp only [putAll, Act.put, s1_, s2_, s3_]; rfl)) (hJ3_4_8_9 (v298, v302, v306, gb308, gb309) _ ⟨hHeld, (by (with_reducible repeat (first | apply v1_ | apply v2_ | apply v3_)); exact v4_ HO299.out (fun _ hk => ⟨hk.1.1, ⟨hk.1.2.1, ⟨hk.1.2.2.1, ⟨hk.2, hk.1.2.2.2⟩⟩⟩⟩)), (by (with_reducible repeat (first | apply v1_ | apply v2_ | apply v3_)); exact v4_ HO303.out (fun _ hk => ⟨hk.1.1, ⟨hk.1.2.1, ⟨hk.1.2.2.1, ⟨hk.2, hk.1.2.2.2⟩⟩⟩⟩)), (by (with_reducible repeat (first | apply v1_ | apply v2_ | apply v3_)); exact v4_ HO307.out (fun _ hk => ⟨hk.1.1, ⟨hk.1.2.1, ⟨hk.1.2.2.1, ⟨hk.2, hk.1.2.2.2⟩⟩⟩⟩)), (by (with_reducible repeat (first | apply v1_ | apply v2_ | apply v3_)); exact v4_ HO_285001.out (fun _ hk => ⟨hk.1.1, ⟨hk.1.2.1, ⟨hk.1.2.2.1, ⟨hk.2, hk.1.2.2.2⟩⟩⟩⟩)), (by (with_reducible repeat (first | apply v1_ | apply v2_ | apply v3_)); exact v4_ HO_290001.out (fun _ hk => ⟨hk.1.1, ⟨hk.1.2.1, ⟨hk.1.2.2.1, ⟨hk.2, hk.1.2.2.2⟩⟩⟩⟩)), (by (with_reducible repeat (first | refine k1_ ?_ _ | refine k2_ ?_ | refine k3_ ?_ _)); exact BK284.out), (by (with_reducible repeat (first | refine k1_ ?_ _ | refine k2_ ?_ | refine k3_ ?_ _)); exact BK289.out), (by (with_reducible repeat (first | refine k1_ ?_ _ | refine k2_ ?_ | refine k3_ ?_ _)); exact BK308.out), (by (with_reducible repeat (first | refine k1_ ?_ _ | refine k2_ ?_ | refine k3_ ?_ _)); exact BK309.out), GW308.out, GE308.out, NB284_308.out, NB308_284.out, NB289_308.out, NB308_289.out, NB309_308.out, NB308_309.out, GW309.out, GE309.out, NB284_309.out, NB309_284.out, NB289_309.out, NB309_289.out, (by repeat (first | (with_reducible first | exact HB.out | apply b1_ | apply b2_ | apply b3_ | refine b4_ ?_ GE284.out | refine b4_ ?_ GE289.out | refine b4_ ?_ GE309.out | refine b4_ ?_ GE308.out) | exact HB.out))⟩)
      ·
       skip
       rintro ⟨v298, v302, v306, gb308⟩ w37 ⟨hS_, h0_, h1_, h2_, h3_, h4_, h5_, h6_, h7_, h8_, h9_, h10_, h11_, h12_, h13_, h14_⟩
       have n0_ : Aside0 (Kd.V (Kd.int .u32) 96 w37 w.heap.size (fun k_ => (P0_1_ k_ ∨ w.heap.size ≤ k_) ∧ k_ ≠ gb284 ∧ k_ ≠ gb289 ∧ k_ ≠ gb308) v298 t297) := ⟨h0_⟩
       have n1_ : Aside0 (Kd.V (Kd.int .u32) 96 w37 w.heap.size (fun k_ => (P0_1_ k_ ∨ w.heap.size ≤ k_) ∧ k_ ≠ gb284 ∧ k_ ≠ gb289 ∧ k_ ≠ gb308) v302 t301) := ⟨h1_⟩
       have n2_ : Aside0 (Kd.V (Kd.int .u32) 96 w37 w.heap.size (fun k_ => (P0_1_ k_ ∨ w.heap.size ≤ k_) ∧ k_ ≠ gb284 ∧ k_ ≠ gb289 ∧ k_ ≠ gb308) v306 t305) := ⟨h2_⟩
       have n3_ : Aside0 (Kd.V (Kd.int .u32) 96 w37 w.heap.size (fun k_ => (P0_1_ k_ ∨ w.heap.size ≤ k_) ∧ k_ ≠ gb284 ∧ k_ ≠ gb289 ∧ k_ ≠ gb308) (.slice A0_1 l0_1.length c0_1) l0_1) := ⟨h3_⟩
       have n4_ : Aside0 (Kd.V (Kd.int .u32) 96 w37 w.heap.size (fun k_ => (P0_1_ k_ ∨ w.heap.size ≤ k_) ∧ k_ ≠ gb284 ∧ k_ ≠ gb289 ∧ k_ ≠ gb308) (.slice Ao10 t286.length co10) t286) := ⟨h4_⟩
       have n5_ : Aside0 (w37.heap[gb284]? = some (.cells #[.bool true, .slice A0_1 l0_1.length c0_1] 29 (0, 0))) := ⟨h5_⟩
       have n6_ : Aside0 (w37.heap[gb289]? = some (.cells #[.bool t285, .slice Ao10 t286.length co10] 29 (0, 0))) := ⟨h6_⟩
       have n7_ : Aside0 (w37.heap[gb308]? = some (.cells #[.bool false, .slice none 0 0] 29 (0, 0))) := ⟨h7_⟩
       have n8_ : Aside0 (w.heap.size ≤ gb308) := ⟨h8_⟩
       have n9_ : Aside0 (w.heap.size ≤ gb308) := ⟨h9_⟩
       have n10_ : Aside0 (gb284 ≠ gb308) := ⟨h10_⟩
       have n11_ : Aside0 (gb308 ≠ gb284) := ⟨h11_⟩
       have n12_ : Aside0 (gb289 ≠ gb308) := ⟨h12_⟩
       have n13_ : Aside0 (gb308 ≠ gb289) := ⟨h13_⟩
       have n14_ : Aside0 (Below w.heap.size w w37) := ⟨h14_⟩
       clear HO_285001
       clear HO_290001
       clear BK284
       clear BK289
       clear HB
       clear h0_ h1_ h2_ h3_ h4_ h5_ h6_ h7_ h8_ h9_ h10_ h11_ h12_ h13_ h14_
       have HO299 := n0_
       have HO303 := n1_
       have HO307 := n2_
       have HO_285001 := n3_
       have HO_290001 := n4_
       have BK284 := n5_
       have BK289 := n6_
       have BK308 := n7_
       have GW308 := n8_
       have GE308 := n9_
       have NB284_308 := n10_
       have NB308_284 := n11_
       have NB289_308 := n12_
       have NB308_289 := n13_
       have HB := n14_
       clear n0_ n1_ n2_ n3_ n4_ n5_ n6_ n7_ n8_ n9_ n10_ n11_ n12_ n13_ n14_
       have hHeld : w37.cell? ⟨gb284, 0, none⟩ = some (.bool true) ∧ w37.cell? ⟨gb284, 1, none⟩ = some (.slice A0_1 l0_1.length c0_1) := hS_
       refine norm_ (a' := ?_) ?_ ?_
       rotate_left
       ·
        simp only [putAll, Act.put, s1_, s2_, s3_]
        rfl
       refine one_ (i := 9) (N := some 9) #[true, true, true, true, true, true, true, true, true, true, false, false] rfl rfl (one_of HT_.out (by kernel_rfl)) (by decide) (fun K hK => ?_)
       refine box_step ?hg (N := 9) ?hd (cs := #[.bool false, .slice none 0 0]) (t := 29) ?hr ?_; (case hd => rfl); (case hg => rfl); (case hr => first | (go_simp; done) | (go_simp; rfl))
       intro gb309 hg w38 hbox hb
       have n0_ := a0_ (Kd.V_below (Kd.V_elderB (by (with_reducible repeat (first | apply v1_ | apply v2_ | apply v3_)); exact HO_285001.out) gb309 (Nat.le_of_eq hg.symm)) hb)
       have n1_ := a0_ (Kd.V_below (Kd.V_elderB (by (with_reducible repeat (first | apply v1_ | apply v2_ | apply v3_)); exact HO_290001.out) gb309 (Nat.le_of_eq hg.symm)) hb)
       have n2_ := a0_ (Kd.V_below (Kd.V_elderB (by (with_reducible repeat (first | apply v1_ | apply v2_ | apply v3_)); exact HO299.out) gb309 (Nat.le_of_eq hg.symm)) hb)
       have n3_ := a0_ (Kd.V_below (Kd.V_elderB (by (with_reducible repeat (first | apply v1_ | apply v2_ | apply v3_)); exact HO303.out) gb309 (Nat.le_of_eq hg.symm)) hb)
       have n4_ := a0_ (Kd.V_below (Kd.V_elderB (by (with_reducible repeat (first | apply v1_ | apply v2_ | apply v3_)); exact HO307.out) gb309 (Nat.le_of_eq hg.symm)) hb)
       have n5_ := a0_ (blk_below (g := gb284) (o := .cells #[.bool true, .slice A0_1 l0_1.length c0_1] 29 (0, 0)) (by (with_reducible repeat (first | refine k1_ ?_ _ | refine k2_ ?_ | refine k3_ ?_ _)); exact BK284.out) hb)
       have n6_ := a0_ (blk_below (g := gb289) (o := .cells #[.bool t285, .slice Ao10 t286.length co10] 29 (0, 0)) (by (with_reducible repeat (first | refine k1_ ?_ _ | refine k2_ ?_ | refine k3_ ?_ _)); exact BK289.out) hb)
       have n7_ := a0_ (blk_below (g := gb308) (o := .cells #[.bool false, .slice none 0 0] 29 (0, 0)) (by (with_reducible repeat (first | refine k1_ ?_ _ | refine k2_ ?_ | refine k3_ ?_ _)); exact BK308.out) hb)
       have n8_ := a0_ (below_step (by repeat (first | (with_reducible first | exact HB.out | apply b1_ | apply b2_ | apply b3_ | refine b4_ ?_ GE284.out | refine b4_ ?_ GE289.out | refine b4_ ?_ GE308.out) | exact HB.out)) hb)
       have n9_ := a0_ (hbox)
       have n10_ := a0_ ((by rw [hg]; exact (below_size (by repeat (first | (with_reducible first | exact HB.out | apply b1_ | apply b2_ | apply b3_ | refine b4_ ?_ GE284.out | refine b4_ ?_ GE289.out | refine b4_ ?_ GE308.out) | exact HB.out))) : w.heap.size ≤ gb309))
       have n11_ := a0_ ((by rw [hg]; exact (below_size (by repeat (first | (with_reducible first | exact HB.out | apply b1_ | apply b2_ | apply b3_ | refine b4_ ?_ GE284.out | refine b4_ ?_ GE289.out | refine b4_ ?_ GE308.out) | exact HB.out))) : w.heap.size ≤ gb309))
       have n12_ := a0_ ((by rw [hg]; exact Nat.ne_of_lt (blk_lt (g := gb284) (o := .cells #[.bool true, .slice A0_1 l0_1.length c0_1] 29 (0, 0)) (by (with_reducible repeat (first | refine k1_ ?_ _ | refine k2_ ?_ | refine k3_ ?_ _)); exact BK284.out)) : gb284 ≠ gb309))
       have n13_ := a0_ ((by rw [hg]; exact Nat.ne_of_gt (blk_lt (g := gb284) (o := .cells #[.bool true, .slice A0_1 l0_1.length c0_1] 29 (0, 0)) (by (with_reducible repeat (first | refine k1_ ?_ _ | refine k2_ ?_ | refine k3_ ?_ _)); exact BK284.out)) : gb309 ≠ gb284))
       have n14_ := a0_ ((by rw [hg]; exact Nat.ne_of_lt (blk_lt (g := gb289) (o := .cells #[.bool t285, .slice Ao10 t286.length co10] 29 (0, 0)) (by (with_reducible repeat (first | refine k1_ ?_ _ | refine k2_ ?_ | refine k3_ ?_ _)); exact BK289.out)) : gb289 ≠ gb309))
       have n15_ := a0_ ((by rw [hg]; exact Nat.ne_of_gt (blk_lt (g := gb289) (o := .cells #[.bool t285, .slice Ao10 t286.length co10] 29 (0, 0)) (by (with_reducible repeat (first | refine k1_ ?_ _ | refine k2_ ?_ | refine k3_ ?_ _)); exact BK289.out)) : gb309 ≠ gb289))
       have n16_ := a0_ ((by rw [hg]; exact Nat.ne_of_lt (blk_lt (g := gb308) (o := .cells #[.bool false, .slice none 0 0] 29 (0, 0)) (by (with_reducible repeat (first | refine k1_ ?_ _ | refine k2_ ?_ | refine k3_ ?_ _)); exact BK308.out)) : gb308 ≠ gb309))
       have n17_ := a0_ ((by rw [hg]; exact Nat.ne_of_gt (blk_lt (g := gb308) (o := .cells #[.bool false, .slice none 0 0] 29 (0, 0)) (by (with_reducible repeat (first | refine k1_ ?_ _ | refine k2_ ?_ | refine k3_ ?_ _)); exact BK308.out)) : gb309 ≠ gb308))
       clear HO_285001
       clear HO_290001
       clear HO299
       clear HO303
       clear HO307
       clear BK284
       clear BK289
       clear BK308
       clear HB
       have HO_285001 := n0_
       have HO_290001 := n1_
       have HO299 := n2_
       have HO303 := n3_
       have HO307 := n4_
       have BK284 := n5_
       have BK289 := n6_
       have BK308 := n7_
       have HB := n8_
       have BK309 := n9_
       have GW309 := n10_
       have GE309 := n11_
       have NB284_309 := n12_
       have NB309_284 := n13_
       have NB289_309 := n14_
       have NB309_289 := n15_
       have NB308_309 := n16_
       have NB309_308 := n17_
       clear n0_ n1_ n2_ n3_ n4_ n5_ n6_ n7_ n8_ n9_ n10_ n11_ n12_ n13_ n14_ n15_ n16_ n17_
       clear hb hbox hg
       refine hK.out _ _ ⟨(blk_cell BK284.out 0).trans rfl, (blk_cell BK284.out 1).trans rfl⟩ (fun hHeld => ?_)
       clear hK K
       refine norm_ (a' := ?_) ?_ ?_
       rotate_left
       ·
        show Act.put _ (some 9) _ = _
        simp only [Act.put, s1_, s2_, s3_, i64_w, i32_w]
        rfl
       exact norm_ (by first | (simp only [putAll, Act.put, s1_, s2_, s3_]; done) | (simp only [putAll, Act.put, s1_, s2_, s3_]; rfl)) (hJ3_4_8_9 (v298, v302, v306, gb308, gb309) _ ⟨hHeld, (by (with_reducible repeat (first | apply v1_ | apply v2_ | apply v3_)); exact v4_ HO299.out (fun _ hk => ⟨hk.1.1, ⟨hk.1.2.1, ⟨hk.1.2.2.1, ⟨hk.1.2.2.2, hk.2⟩⟩⟩⟩)), (by (with_reducible repeat (first | apply v1_ | apply v2_ | apply v3_)); exact v4_ HO303.out (fun _ hk => ⟨hk.1.1, ⟨hk.1.2.1, ⟨hk.1.2.2.1, ⟨hk.1.2.2.2, hk.2⟩⟩⟩⟩)), (by (with_reducible repeat (first | apply v1_ | apply v2_ | apply v3_)); exact v4_ HO307.out (fun _ hk => ⟨hk.1.1, ⟨hk.1.2.1, ⟨hk.1.2.2.1, ⟨hk.1.2.2.2, hk.2⟩⟩⟩⟩)), (by (with_reducible repeat (first | apply v1_ | apply v2_ | apply v3_)); exact v4_ HO_285001.out (fun _ hk => ⟨hk.1.1, ⟨hk.1.2.1, ⟨hk.1.2.2.1, ⟨hk.1.2.2.2, hk.2⟩⟩⟩⟩)), (by (with_reducible repeat (first | apply v1_ | apply v2_ | apply v3_)); exact v4_ HO_290001.out (fun _ hk => ⟨hk.1.1, ⟨hk.1.2.1, ⟨hk.1.2.2.1, ⟨hk.1.2.2.2, hk.2⟩⟩⟩⟩)), (by (with_reducible repeat (first | refine k1_ ?_ _ | refine k2_ ?_ | refine k3_ ?_ _)); exact BK284.out), (by (with_reducible repeat (first | refine k1_ ?_ _ | refine k2_ ?_ | refine k3_ ?_ _)); exact BK289.out), (by (with_reducible repeat (first | refine k1_ ?_ _ | refine k2_ ?_ | refine k3_ ?_ _)); exact BK308.out), (by (with_reducible repeat (first | refine k1_ ?_ _ | refine k2_ ?_ | refine k3_ ?_ _)); exact BK309.out), GW308.out, GE308.out, NB284_308.out, NB308_284.out, NB289_308.out, NB308_289.out, NB309_308.out, NB308_309.out, GW309.out, GE309.out, NB284_309.out, NB309_284.out, NB289_309.out, NB309_289.out, (by repeat (first | (with_reducible first | exact HB.out | apply b1_ | apply b2_ | apply b3_ | refine b4_ ?_ GE284.out | refine b4_ ?_ GE289.out | refine b4_ ?_ GE308.out | refine b4_ ?_ GE309.out) | exact HB.out))⟩)
     rintro ⟨v298, v302, v306, gb308, gb309⟩ w38 ⟨hS_, h0_, h1_, h2_, h3_, h4_, h5_, h6_, h7_, h8_, h9_, h10_, h11_, h12_, h13_, h14_, h15_, h16_, h17_, h18_, h19_, h20_, h21_, h22_, h23_⟩
     have n0_ : Aside0 (Kd.V (Kd.int .u32) 96 w38 w.heap.size (fun k_ => (P0_1_ k_ ∨ w.heap.size ≤ k_) ∧ k_ ≠ gb284 ∧ k_ ≠ gb289 ∧ k_ ≠ gb308 ∧ k_ ≠ gb309) v298 t297) := ⟨h0_⟩
     have n1_ : Aside0 (Kd.V (Kd.int .u32) 96 w38 w.heap.size (fun k_ => (P0_1_ k_ ∨ w.heap.size ≤ k_) ∧ k_ ≠ gb284 ∧ k_ ≠ gb289 ∧ k_ ≠ gb308 ∧ k_ ≠ gb309) v302 t301) := ⟨h1_⟩
     have n2_ : Aside0 (Kd.V (Kd.int .u32) 96 w38 w.heap.size (fun k_ => (P0_1_ k_ ∨ w.heap.size ≤ k_) ∧ k_ ≠ gb284 ∧ k_ ≠ gb289 ∧ k_ ≠ gb308 ∧ k_ ≠ gb309) v306 t305) := ⟨h2_⟩
     have n3_ : Aside0 (Kd.V (Kd.int .u32) 96 w38 w.heap.size (fun k_ => (P0_1_ k_ ∨ w.heap.size ≤ k_) ∧ k_ ≠ gb284 ∧ k_ ≠ gb289 ∧ k_ ≠ gb308 ∧ k_ ≠ gb309) (.slice A0_1 l0_1.length c0_1) l0_1) := ⟨h3_⟩
     have n4_ : Aside0 (Kd.V (Kd.int .u32) 96 w38 w.heap.size (fun k_ => (P0_1_ k_ ∨ w.heap.size ≤ k_) ∧ k_ ≠ gb284 ∧ k_ ≠ gb289 ∧ k_ ≠ gb308 ∧ k_ ≠ gb309) (.slice Ao10 t286.length co10) t286) := ⟨h4_⟩
     have n5_ : Aside0 (w38.heap[gb284]? = some (.cells #[.bool true, .slice A0_1 l0_1.length c0_1] 29 (0, 0))) := ⟨h5_⟩
     have n6_ : Aside0 (w38.heap[gb289]? = some (.cells #[.bool t285, .slice Ao10 t286.length co10] 29 (0, 0))) := ⟨h6_⟩
     have n7_ : Aside0 (w38.heap[gb308]? = some (.cells #[.bool false, .slice none 0 0] 29 (0, 0))) := ⟨h7_⟩
     have n8_ : Aside0 (w38.heap[gb309]? = some (.cells #[.bool false, .slice none 0 0] 29 (0, 0))) := ⟨h8_⟩
     have n9_ : Aside0 (w.heap.size ≤ gb308) := ⟨h9_⟩
     have n10_ : Aside0 (w.heap.size ≤ gb308) := ⟨h10_⟩
     have n11_ : Aside0 (gb284 ≠ gb308) := ⟨h11_⟩
     have n12_ : Aside0 (gb308 ≠ gb284) := ⟨h12_⟩
     have n13_ : Aside0 (gb289 ≠ gb308) := ⟨h13_⟩
     have n14_ : Aside0 (gb308 ≠ gb289) := ⟨h14_⟩
     have n15_ : Aside0 (gb309 ≠ gb308) := ⟨h15_⟩
     have n16_ : Aside0 (gb308 ≠ gb309) := ⟨h16_⟩
     have n17_ : Aside0 (w.heap.size ≤ gb309) := ⟨h17_⟩
     have n18_ : Aside0 (w.heap.size ≤ gb309) := ⟨h18_⟩
     have n19_ : Aside0 (gb284 ≠ gb309) := ⟨h19_⟩
     have n20_ : Aside0 (gb309 ≠ gb284) := ⟨h20_⟩
     have n21_ : Aside0 (gb289 ≠ gb309) := ⟨h21_⟩
     have n22_ : Aside0 (gb309 ≠ gb289) := ⟨h22_⟩
     have n23_ : Aside0 (Below w.heap.size w w38) := ⟨h23_⟩
     clear HO_285001
     clear HO_290001
     clear BK284
     clear BK289
     clear HB
     clear h0_ h1_ h2_ h3_ h4_ h5_ h6_ h7_ h8_ h9_ h10_ h11_ h12_ h13_ h14_ h15_ h16_ h17_ h18_ h19_ h20_ h21_ h22_ h23_
     have HO299 := n0_
     have HO303 := n1_
     have HO307 := n2_
     have HO_285001 := n3_
     have HO_290001 := n4_
     have BK284 := n5_
     have BK289 := n6_
     have BK308 := n7_
     have BK309 := n8_
     have GW308 := n9_
     have GE308 := n10_
     have NB284_308 := n11_
     have NB308_284 := n12_
     have NB289_308 := n13_
     have NB308_289 := n14_
     have NB309_308 := n15_
     have NB308_309 := n16_
     have GW309 := n17_
     have GE309 := n18_
     have NB284_309 := n19_
     have NB309_284 := n20_
     have NB289_309 := n21_
     have NB309_289 := n22_
     have HB := n23_
     clear n0_ n1_ n2_ n3_ n4_ n5_ n6_ n7_ n8_ n9_ n10_ n11_ n12_ n13_ n14_ n15_ n16_ n17_ n18_ n19_ n20_ n21_ n22_ n23_
     have hHeld : w38.cell? ⟨gb284, 0, none⟩ = some (.bool true) ∧ w38.cell? ⟨gb284, 1, none⟩ = some (.slice A0_1 l0_1.length c0_1) := hS_
     obtain ⟨Ao40, co40, eo40⟩ := Kd.V_slice HO303.out
     (first | subst eo40 | (injection eo40 with f1_ f2_ f3_; have f4_ := f1_.symm; have f5_ := f3_.symm; clear f1_ f2_ f3_; subst f4_; subst f5_))
     obtain ⟨Ao43, co43, eo43⟩ := Kd.V_slice HO307.out
     (first | subst eo43 | (injection eo43 with f1_ f2_ f3_; have f4_ := f1_.symm; have f5_ := f3_.symm; clear f1_ f2_ f3_; subst f4_; subst f5_))
     refine norm_ (a' := ?_) ?_ ?_
     rotate_left
     ·
      simp only [putAll, Act.put, s1_, s2_, s3_]
      rfl
     refine one_ (i := 10) (N := none) #[true, true, true, true, true, true, true, true, true, true, true, false] rfl rfl (one_of HT_.out (by kernel_rfl)) (by decide) (fun K hK => ?_)
     have hs39 : w38.cell? ⟨gb308, 0, none⟩ = some (.bool false) := (blk_cell BK308.out 0).trans rfl
     have hfs39 := blk_frozen BK308.out 0
     have hns39_0 := NB284_308.out
     have hns39_1 := NB289_308.out
     have hns39_3 := NB309_308.out
     have hms39_0 := NB308_284.out
     have hms39_1 := NB308_289.out
     have hms39_3 := NB308_309.out
     have hs41 : w38.cell? ⟨gb308, 1, none⟩ = some (.slice none 0 0) := (blk_cell BK308.out 1).trans rfl
     have hfs41 := blk_frozen BK308.out 1
     have hns41_0 := NB284_308.out
     have hns41_1 := NB289_308.out
     have hns41_3 := NB309_308.out
     have hms41_0 := NB308_284.out
     have hms41_1 := NB308_289.out
     have hms41_3 := NB308_309.out
     refine skip_ (w1 := ?_) (by rfl) rfl ?_ ?_
     rotate_left
     ·
      go_simp
      rfl
     refine hK.out _ _ ⟨((cell_far (p := ⟨gb308, _, none⟩) NB284_308.out _).trans (((cell_far (p := ⟨gb308, _, none⟩) NB284_308.out _).trans (hHeld.1)))), ((cell_far (p := ⟨gb308, _, none⟩) NB284_308.out _).trans (((cell_far (p := ⟨gb308, _, none⟩) NB284_308.out _).trans (hHeld.2))))⟩ (fun hHeld => ?_)
     clear hK K
     refine one_ (i := 11) (N := none) #[true, true, true, true, true, true, true, true, true, true, true, true] rfl rfl (one_of HT_.out (by kernel_rfl)) (by decide) (fun K hK => ?_)
     have hs42 : w38.cell? ⟨gb309, 0, none⟩ = some (.bool false) := (blk_cell BK309.out 0).trans rfl
     have hfs42 := blk_frozen BK309.out 0
     have hns42_0 := NB284_309.out
     have hns42_1 := NB289_309.out
     have hns42_2 := NB308_309.out
     have hms42_0 := NB309_284.out
     have hms42_1 := NB309_289.out
     have hms42_2 := NB309_308.out
     have hs44 : w38.cell? ⟨gb309, 1, none⟩ = some (.slice none 0 0) := (blk_cell BK309.out 1).trans rfl
     have hfs44 := blk_frozen BK309.out 1
     have hns44_0 := NB284_309.out
     have hns44_1 := NB289_309.out
     have hns44_2 := NB308_309.out
     have hms44_0 := NB309_284.out
     have hms44_1 := NB309_289.out
     have hms44_2 := NB309_308.out
     refine skip_ (w1 := ?_) (by rfl) rfl ?_ ?_
     rotate_left
     ·
      go_simp
      rfl
     refine hK.out _ _ ⟨((cell_far (p := ⟨gb309, _, none⟩) NB284_309.out _).trans (((cell_far (p := ⟨gb309, _, none⟩) NB284_309.out _).trans (hHeld.1)))), ((cell_far (p := ⟨gb309, _, none⟩) NB284_309.out _).trans (((cell_far (p := ⟨gb309, _, none⟩) NB284_309.out _).trans (hHeld.2))))⟩ (fun hHeld => ?_)
     clear hK K
     refine done_ (done_of HT_.out (by kernel_rfl)) ?_
     try go_wp2
     have n0_ : Aside0 (Kd.V (Kd.int .u32) 96 ((((w38.setCell ⟨gb308, 0, none⟩ (.bool t300)).setCell ⟨gb308, 1, none⟩ (.slice Ao40 t301.length co40)).setCell ⟨gb309, 0, none⟩ (.bool t304)).setCell ⟨gb309, 1, none⟩ (.slice Ao43 t305.length co43)) w.heap.size (fun k_ => (P0_1_ k_ ∨ w.heap.size ≤ k_) ∧ k_ ≠ gb284 ∧ k_ ≠ gb289 ∧ k_ ≠ gb308 ∧ k_ ≠ gb309) (.slice A0_1 l0_1.length c0_1) l0_1) := ⟨by (with_reducible repeat (first | apply v1_ | apply v2_ | apply v3_)); exact v4_ (v5_ (p := ⟨gb309, 1, none⟩) (v5_ (p := ⟨gb309, 0, none⟩) (v5_ (p := ⟨gb308, 1, none⟩) (v5_ (p := ⟨gb308, 0, none⟩) (v4_ (v4_ HO_285001.out (fun k_ hk => (⟨hk, hk.2.2.2.1⟩ : _ ∧ k_ ≠ gb308))) (fun k_ hk => (⟨hk, hk.1.2.2.2.2⟩ : _ ∧ k_ ≠ gb309))) (fun _ hk => hk.1.2) (.bool t300)) (fun _ hk => hk.1.2) (.slice Ao40 t301.length co40)) (fun _ hk => hk.2) (.bool t304)) (fun _ hk => hk.2) (.slice Ao43 t305.length co43)) (fun _ hk => ⟨hk.1.1.1, ⟨hk.1.1.2.1, ⟨hk.1.1.2.2.1, ⟨hk.1.1.2.2.2.1, hk.1.1.2.2.2.2⟩⟩⟩⟩)⟩
     have n1_ : Aside0 (Kd.V (Kd.int .u32) 96 ((((w38.setCell ⟨gb308, 0, none⟩ (.bool t300)).setCell ⟨gb308, 1, none⟩ (.slice Ao40 t301.length co40)).setCell ⟨gb309, 0, none⟩ (.bool t304)).setCell ⟨gb309, 1, none⟩ (.slice Ao43 t305.length co43)) w.heap.size (fun k_ => (P0_1_ k_ ∨ w.heap.size ≤ k_) ∧ k_ ≠ gb284 ∧ k_ ≠ gb289 ∧ k_ ≠ gb308 ∧ k_ ≠ gb309) (.slice Ao10 t286.length co10) t286) := ⟨by (with_reducible repeat (first | apply v1_ | apply v2_ | apply v3_)); exact v4_ (v5_ (p := ⟨gb309, 1, none⟩) (v5_ (p := ⟨gb309, 0, none⟩) (v5_ (p := ⟨gb308, 1, none⟩) (v5_ (p := ⟨gb308, 0, none⟩) (v4_ (v4_ HO_290001.out (fun k_ hk => (⟨hk, hk.2.2.2.1⟩ : _ ∧ k_ ≠ gb308))) (fun k_ hk => (⟨hk, hk.1.2.2.2.2⟩ : _ ∧ k_ ≠ gb309))) (fun _ hk => hk.1.2) (.bool t300)) (fun _ hk => hk.1.2) (.slice Ao40 t301.length co40)) (fun _ hk => hk.2) (.bool t304)) (fun _ hk => hk.2) (.slice Ao43 t305.length co43)) (fun _ hk => ⟨hk.1.1.1, ⟨hk.1.1.2.1, ⟨hk.1.1.2.2.1, ⟨hk.1.1.2.2.2.1, hk.1.1.2.2.2.2⟩⟩⟩⟩)⟩
     have n2_ : Aside0 (Kd.V (Kd.int .u32) 96 ((((w38.setCell ⟨gb308, 0, none⟩ (.bool t300)).setCell ⟨gb308, 1, none⟩ (.slice Ao40 t301.length co40)).setCell ⟨gb309, 0, none⟩ (.bool t304)).setCell ⟨gb309, 1, none⟩ (.slice Ao43 t305.length co43)) w.heap.size (fun k_ => (P0_1_ k_ ∨ w.heap.size ≤ k_) ∧ k_ ≠ gb284 ∧ k_ ≠ gb289 ∧ k_ ≠ gb308 ∧ k_ ≠ gb309) v298 t297) := ⟨by (with_reducible repeat (first | apply v1_ | apply v2_ | apply v3_)); exact v4_ (v5_ (p := ⟨gb309, 1, none⟩) (v5_ (p := ⟨gb309, 0, none⟩) (v5_ (p := ⟨gb308, 1, none⟩) (v5_ (p := ⟨gb308, 0, none⟩) (v4_ (v4_ HO299.out (fun k_ hk => (⟨hk, hk.2.2.2.1⟩ : _ ∧ k_ ≠ gb308))) (fun k_ hk => (⟨hk, hk.1.2.2.2.2⟩ : _ ∧ k_ ≠ gb309))) (fun _ hk => hk.1.2) (.bool t300)) (fun _ hk => hk.1.2) (.slice Ao40 t301.length co40)) (fun _ hk => hk.2) (.bool t304)) (fun _ hk => hk.2) (.slice Ao43 t305.length co43)) (fun _ hk => ⟨hk.1.1.1, ⟨hk.1.1.2.1, ⟨hk.1.1.2.2.1, ⟨hk.1.1.2.2.2.1, hk.1.1.2.2.2.2⟩⟩⟩⟩)⟩
     have n3_ : Aside0 (Kd.V (Kd.int .u32) 96 ((((w38.setCell ⟨gb308, 0, none⟩ (.bool t300)).setCell ⟨gb308, 1, none⟩ (.slice Ao40 t301.length co40)).setCell ⟨gb309, 0, none⟩ (.bool t304)).setCell ⟨gb309, 1, none⟩ (.slice Ao43 t305.length co43)) w.heap.size (fun k_ => (P0_1_ k_ ∨ w.heap.size ≤ k_) ∧ k_ ≠ gb284 ∧ k_ ≠ gb289 ∧ k_ ≠ gb308 ∧ k_ ≠ gb309) (.slice Ao40 t301.length co40) t301) := ⟨by (with_reducible repeat (first | apply v1_ | apply v2_ | apply v3_)); exact v4_ (v5_ (p := ⟨gb309, 1, none⟩) (v5_ (p := ⟨gb309, 0, none⟩) (v5_ (p := ⟨gb308, 1, none⟩) (v5_ (p := ⟨gb308, 0, none⟩) (v4_ (v4_ HO303.out (fun k_ hk => (⟨hk, hk.2.2.2.1⟩ : _ ∧ k_ ≠ gb308))) (fun k_ hk => (⟨hk, hk.1.2.2.2.2⟩ : _ ∧ k_ ≠ gb309))) (fun _ hk => hk.1.2) (.bool t300)) (fun _ hk => hk.1.2) (.slice Ao40 t301.length co40)) (fun _ hk => hk.2) (.bool t304)) (fun _ hk => hk.2) (.slice Ao43 t305.length co43)) (fun _ hk => ⟨hk.1.1.1, ⟨hk.1.1.2.1, ⟨hk.1.1.2.2.1, ⟨hk.1.1.2.2.2.1, hk.1.1.2.2.2.2⟩⟩⟩⟩)⟩
     have n4_ : Aside0 (Kd.V (Kd.int .u32) 96 ((((w38.setCell ⟨gb308, 0, none⟩ (.bool t300)).setCell ⟨gb308, 1, none⟩ (.slice Ao40 t301.length co40)).setCell ⟨gb309, 0, none⟩ (.bool t304)).setCell ⟨gb309, 1, none⟩ (.slice Ao43 t305.length co43)) w.heap.size (fun k_ => (P0_1_ k_ ∨ w.heap.size ≤ k_) ∧ k_ ≠ gb284 ∧ k_ ≠ gb289 ∧ k_ ≠ gb308 ∧ k_ ≠ gb309) (.slice Ao43 t305.length co43) t305) := ⟨by (with_reducible repeat (first | apply v1_ | apply v2_ | apply v3_)); exact v4_ (v5_ (p := ⟨gb309, 1, none⟩) (v5_ (p := ⟨gb309, 0, none⟩) (v5_ (p := ⟨gb308, 1, none⟩) (v5_ (p := ⟨gb308, 0, none⟩) (v4_ (v4_ HO307.out (fun k_ hk => (⟨hk, hk.2.2.2.1⟩ : _ ∧ k_ ≠ gb308))) (fun k_ hk => (⟨hk, hk.1.2.2.2.2⟩ : _ ∧ k_ ≠ gb309))) (fun _ hk => hk.1.2) (.bool t300)) (fun _ hk => hk.1.2) (.slice Ao40 t301.length co40)) (fun _ hk => hk.2) (.bool t304)) (fun _ hk => hk.2) (.slice Ao43 t305.length co43)) (fun _ hk => ⟨hk.1.1.1, ⟨hk.1.1.2.1, ⟨hk.1.1.2.2.1, ⟨hk.1.1.2.2.2.1, hk.1.1.2.2.2.2⟩⟩⟩⟩)⟩
     have n5_ : Aside0 (((((w38.setCell ⟨gb308, 0, none⟩ (.bool t300)).setCell ⟨gb308, 1, none⟩ (.slice Ao40 t301.length co40)).setCell ⟨gb309, 0, none⟩ (.bool t304)).setCell ⟨gb309, 1, none⟩ (.slice Ao43 t305.length co43)).heap[gb284]? = some (.cells #[.bool true, .slice A0_1 l0_1.length c0_1] 29 (0, 0))) := ⟨by (with_reducible repeat (first | refine k1_ ?_ _ | refine k2_ ?_ | refine k3_ ?_ _)); refine blk_far ?_ NB284_309.out _; (with_reducible repeat (first | refine k1_ ?_ _ | refine k2_ ?_ | refine k3_ ?_ _)); refine blk_far ?_ NB284_309.out _; (with_reducible repeat (first | refine k1_ ?_ _ | refine k2_ ?_ | refine k3_ ?_ _)); refine blk_far ?_ NB284_308.out _; (with_reducible repeat (first | refine k1_ ?_ _ | refine k2_ ?_ | refine k3_ ?_ _)); refine blk_far ?_ NB284_308.out _; (with_reducible repeat (first | refine k1_ ?_ _ | refine k2_ ?_ | refine k3_ ?_ _)); exact BK284.out⟩
     have n6_ : Aside0 (((((w38.setCell ⟨gb308, 0, none⟩ (.bool t300)).setCell ⟨gb308, 1, none⟩ (.slice Ao40 t301.length co40)).setCell ⟨gb309, 0, none⟩ (.bool t304)).setCell ⟨gb309, 1, none⟩ (.slice Ao43 t305.length co43)).heap[gb289]? = some (.cells #[.bool t285, .slice Ao10 t286.length co10] 29 (0, 0))) := ⟨by (with_reducible repeat (first | refine k1_ ?_ _ | refine k2_ ?_ | refine k3_ ?_ _)); refine blk_far ?_ NB289_309.out _; (with_reducible repeat (first | refine k1_ ?_ _ | refine k2_ ?_ | refine k3_ ?_ _)); refine blk_far ?_ NB289_309.out _; (with_reducible repeat (first | refine k1_ ?_ _ | refine k2_ ?_ | refine k3_ ?_ _)); refine blk_far ?_ NB289_308.out _; (with_reducible repeat (first | refine k1_ ?_ _ | refine k2_ ?_ | refine k3_ ?_ _)); refine blk_far ?_ NB289_308.out _; (with_reducible repeat (first | refine k1_ ?_ _ | refine k2_ ?_ | refine k3_ ?_ _)); exact BK289.out⟩
     have n7_ : Aside0 (((((w38.setCell ⟨gb308, 0, none⟩ (.bool t300)).setCell ⟨gb308, 1, none⟩ (.slice Ao40 t301.length co40)).setCell ⟨gb309, 0, none⟩ (.bool t304)).setCell ⟨gb309, 1, none⟩ (.slice Ao43 t305.length co43)).heap[gb308]? = some (.cells #[.bool t300, .slice Ao40 t301.length co40] 29 (0, 0))) := ⟨by (with_reducible repeat (first | refine k1_ ?_ _ | refine k2_ ?_ | refine k3_ ?_ _)); refine blk_far ?_ NB308_309.out _; (with_reducible repeat (first | refine k1_ ?_ _ | refine k2_ ?_ | refine k3_ ?_ _)); refine blk_far ?_ NB308_309.out _; (with_reducible repeat (first | refine k1_ ?_ _ | refine k2_ ?_ | refine k3_ ?_ _)); refine blk_put (cs := #[.bool t300, .slice none 0 0]) ?_ 1 _ rfl; (with_reducible repeat (first | refine k1_ ?_ _ | refine k2_ ?_ | refine k3_ ?_ _)); refine blk_put (cs := #[.bool false, .slice none 0 0]) ?_ 0 _ rfl; (with_reducible repeat (first | refine k1_ ?_ _ | refine k2_ ?_ | refine k3_ ?_ _)); exact BK308.out⟩
     have n8_ : Aside0 (((((w38.setCell ⟨gb308, 0, none⟩ (.bool t300)).setCell ⟨gb308, 1, none⟩ (.slice Ao40 t301.length co40)).setCell ⟨gb309, 0, none⟩ (.bool t304)).setCell ⟨gb309, 1, none⟩ (.slice Ao43 t305.length co43)).heap[gb309]? = some (.cells #[.bool t304, .slice Ao43 t305.length co43] 29 (0, 0))) := ⟨by (with_reducible repeat (first | refine k1_ ?_ _ | refine k2_ ?_ | refine k3_ ?_ _)); refine blk_put (cs := #[.bool t304, .slice none 0 0]) ?_ 1 _ rfl; (with_reducible repeat (first | refine k1_ ?_ _ | refine k2_ ?_ | refine k3_ ?_ _)); refine blk_put (cs := #[.bool false, .slice none 0 0]) ?_ 0 _ rfl; (with_reducible repeat (first | refine k1_ ?_ _ | refine k2_ ?_ | refine k3_ ?_ _)); refine blk_far ?_ NB309_308.out _; (with_reducible repeat (first | refine k1_ ?_ _ | refine k2_ ?_ | refine k3_ ?_ _)); refine blk_far ?_ NB309_308.out _; (with_reducible repeat (first | refine k1_ ?_ _ | refine k2_ ?_ | refine k3_ ?_ _)); exact BK309.out⟩
     have n9_ : Aside0 (Below w.heap.size w ((((w38.setCell ⟨gb308, 0, none⟩ (.bool t300)).setCell ⟨gb308, 1, none⟩ (.slice Ao40 t301.length co40)).setCell ⟨gb309, 0, none⟩ (.bool t304)).setCell ⟨gb309, 1, none⟩ (.slice Ao43 t305.length co43))) := ⟨by repeat (first | (with_reducible first | exact HB.out | apply b1_ | apply b2_ | apply b3_ | refine b4_ ?_ GE284.out | refine b4_ ?_ GE289.out | refine b4_ ?_ GE308.out | refine b4_ ?_ GE309.out) | exact HB.out)⟩
     (try clear HO_285001)
     (try clear HO_290001)
     (try clear HO299)
     (try clear HO303)
     (try clear HO307)
     (try clear BK284)
     (try clear BK289)
     (try clear BK308)
     (try clear BK309)
     (try clear HB)
     generalize ((((w38.setCell ⟨gb308, 0, none⟩ (.bool t300)).setCell ⟨gb308, 1, none⟩ (.slice Ao40 t301.length co40)).setCell ⟨gb309, 0, none⟩ (.bool t304)).setCell ⟨gb309, 1, none⟩ (.slice Ao43 t305.length co43)) = w45 at n0_ n1_ n2_ n3_ n4_ n5_ n6_ n7_ n8_ n9_ ⊢
     have HO_285001 := n0_
     have HO_290001 := n1_
     have HO299 := n2_
     have HO303 := n3_
     have HO307 := n4_
     have BK284 := n5_
     have BK289 := n6_
     have BK308 := n7_
     have BK309 := n8_
     have HB := n9_
     clear n0_ n1_ n2_ n3_ n4_ n5_ n6_ n7_ n8_ n9_
     have n0_ := a0_ (v3_ HO_285001.out)
     have n1_ := a0_ (v3_ HO_290001.out)
     have n2_ := a0_ (v3_ HO299.out)
     have n3_ := a0_ (v3_ HO303.out)
     have n4_ := a0_ (v3_ HO307.out)
     have n5_ := a0_ (k2_ BK284.out)
     have n6_ := a0_ (k2_ BK289.out)
     have n7_ := a0_ (k2_ BK308.out)
     have n8_ := a0_ (k2_ BK309.out)
     have n9_ := a0_ (b3_ HB.out)
     clear HO_285001
     clear HO_290001
     clear HO299
     clear HO303
     clear HO307
     clear BK284
     clear BK289
     clear BK308
     clear BK309
     clear HB
     have HO_285001 := n0_
     have HO_290001 := n1_
     have HO299 := n2_
     have HO303 := n3_
     have HO307 := n4_
     have BK284 := n5_
     have BK289 := n6_
     have BK308 := n7_
     have BK309 := n8_
     have HB := n9_
     clear n0_ n1_ n2_ n3_ n4_ n5_ n6_ n7_ n8_ n9_
     refine start_ (n := 6) (S := fun w' => w'.cell? ⟨gb309, 0, none⟩ = some (.bool t304) ∧ w'.cell? ⟨gb309, 1, none⟩ = some (.slice Ao43 t305.length co43)) (ds := []) #[false, false, false, false, false, false] (by kernel_rfl) rfl rfl ⟨(blk_cell BK309.out 0).trans rfl, (blk_cell BK309.out 1).trans rfl⟩ (fun hHeld => ?_)
     generalize w45.drew = w46 at HO_285001 HO_290001 HO299 HO303 HO307 BK284 BK289 BK308 BK309 HB hHeld ⊢
     refine pure_ (i := 1) (N := some 39) (v := ?_) (a' := ?_) #[false, true, false, false, false, false] rfl rfl (by kernel_rfl) (fun _ _ _ h => h) (Or.inl ⟨by rfl, ?_⟩) ?_ ?_
     rotate_left
     ·
      intro w'
      go_simp
      with_reducible rfl
     rotate_left
     ·
      simp only [Act.put, s1_, s2_, s3_, i64_w, i32_w]
      rfl
     refine pure_ (i := 2) (N := some 40) (v := ?_) (a' := ?_) #[false, true, true, false, false, false] rfl rfl (by kernel_rfl) (fun _ _ _ h => h) (Or.inl ⟨by rfl, ?_⟩) ?_ ?_
     rotate_left
     ·
      intro w'
      go_simp
      with_reducible rfl
     rotate_left
     ·
      simp only [Act.put, s1_, s2_, s3_, i64_w, i32_w]
      rfl
     refine take_ (i := 0) (N := some 38) (v := ?_) (a' := ?_) #[true, true, true, false, false, false] rfl rfl (by kernel_rfl) (fun _ _ _ h => h) (Or.inl ⟨by rfl, ?_⟩) hHeld ?_ ?_
     rotate_left
     ·
      rintro w' ⟨s0, s1⟩
      go_simp
      with_reducible rfl
     rotate_left
     ·
      simp only [Act.put, s1_, s2_, s3_, i64_w, i32_w]
      rfl
     refine one_ (i := 3) (N := some 41) #[true, true, true, true, false, false] rfl rfl (by kernel_rfl) (by decide) (fun K hK => ?_)
     refine goes_ Try.func72 (by kernel_rfl) rfl #[.int .i64 (wrap64 (64 * a1))] (by rfl) rfl rfl (by (try simp only [List.map_toArray, List.map_cons, List.map_nil]); first | done | rfl | (simp only [List.length_drop, List.length_take]; rfl)) ?_
     with_reducible refine (spec_Two.calls kj3 (wrap64 (64 * a1)) t310 t311 _ A30.out).mono ?_
     rintro e w47 ⟨v312, rfl, ho0, hb⟩
     refine ⟨_, rfl, ?_⟩
     have n0_ := a0_ (Kd.V_below (by (with_reducible repeat (first | apply v1_ | apply v2_ | apply v3_)); exact HO_285001.out) hb)
     have n1_ := a0_ (Kd.V_below (by (with_reducible repeat (first | apply v1_ | apply v2_ | apply v3_)); exact HO_290001.out) hb)
     have n2_ := a0_ (Kd.V_below (by (with_reducible repeat (first | apply v1_ | apply v2_ | apply v3_)); exact HO299.out) hb)
     have n3_ := a0_ (Kd.V_below (by (with_reducible repeat (first | apply v1_ | apply v2_ | apply v3_)); exact HO303.out) hb)
     have n4_ := a0_ (Kd.V_below (by (with_reducible repeat (first | apply v1_ | apply v2_ | apply v3_)); exact HO307.out) hb)
     have n5_ := a0_ (Kd.V_lower (v4_ (ok' := fun k_ => (P0_1_ k_ ∨ w.heap.size ≤ k_) ∧ k_ ≠ gb284 ∧ k_ ≠ gb289 ∧ k_ ≠ gb308 ∧ k_ ≠ gb309) ho0 (fun k_ hk_ => ⟨(.inr (Nat.le_trans (below_size (by repeat (first | (with_reducible first | exact HB.out | apply b1_ | apply b2_ | apply b3_ | refine b4_ ?_ GE284.out | refine b4_ ?_ GE289.out | refine b4_ ?_ GE308.out | refine b4_ ?_ GE309.out) | exact HB.out))) hk_)), (Kd.freshB (g := gb284) (o := .cells #[.bool true, .slice A0_1 l0_1.length c0_1] 29 (0, 0)) (by (with_reducible repeat (first | refine k1_ ?_ _ | refine k2_ ?_ | refine k3_ ?_ _)); exact BK284.out) k_ hk_), (Kd.freshB (g := gb289) (o := .cells #[.bool t285, .slice Ao10 t286.length co10] 29 (0, 0)) (by (with_reducible repeat (first | refine k1_ ?_ _ | refine k2_ ?_ | refine k3_ ?_ _)); exact BK289.out) k_ hk_), (Kd.freshB (g := gb308) (o := .cells #[.bool t300, .slice Ao40 t301.length co40] 29 (0, 0)) (by (with_reducible repeat (first | refine k1_ ?_ _ | refine k2_ ?_ | refine k3_ ?_ _)); exact BK308.out) k_ hk_), (Kd.freshB (g := gb309) (o := .cells #[.bool t304, .slice Ao43 t305.length co43] 29 (0, 0)) (by (with_reducible repeat (first | refine k1_ ?_ _ | refine k2_ ?_ | refine k3_ ?_ _)); exact BK309.out) k_ hk_)⟩)) (below_size (by repeat (first | (with_reducible first | exact HB.out | apply b1_ | apply b2_ | apply b3_ | refine b4_ ?_ GE284.out | refine b4_ ?_ GE289.out | refine b4_ ?_ GE308.out | refine b4_ ?_ GE309.out) | exact HB.out))))
     have n6_ := a0_ (blk_below (g := gb284) (o := .cells #[.bool true, .slice A0_1 l0_1.length c0_1] 29 (0, 0)) (by (with_reducible repeat (first | refine k1_ ?_ _ | refine k2_ ?_ | refine k3_ ?_ _)); exact BK284.out) hb)
     have n7_ := a0_ (blk_below (g := gb289) (o := .cells #[.bool t285, .slice Ao10 t286.length co10] 29 (0, 0)) (by (with_reducible repeat (first | refine k1_ ?_ _ | refine k2_ ?_ | refine k3_ ?_ _)); exact BK289.out) hb)
     have n8_ := a0_ (blk_below (g := gb308) (o := .cells #[.bool t300, .slice Ao40 t301.length co40] 29 (0, 0)) (by (with_reducible repeat (first | refine k1_ ?_ _ | refine k2_ ?_ | refine k3_ ?_ _)); exact BK308.out) hb)
     have n9_ := a0_ (blk_below (g := gb309) (o := .cells #[.bool t304, .slice Ao43 t305.length co43] 29 (0, 0)) (by (with_reducible repeat (first | refine k1_ ?_ _ | refine k2_ ?_ | refine k3_ ?_ _)); exact BK309.out) hb)
     have n10_ := a0_ (below_step (by repeat (first | (with_reducible first | exact HB.out | apply b1_ | apply b2_ | apply b3_ | refine b4_ ?_ GE284.out | refine b4_ ?_ GE289.out | refine b4_ ?_ GE308.out | refine b4_ ?_ GE309.out) | exact HB.out)) hb)
     clear HO_285001
     clear HO_290001
     clear HO299
     clear HO303
     clear HO307
     clear BK284
     clear BK289
     clear BK308
     clear BK309
     clear HB
     have HO_285001 := n0_
     have HO_290001 := n1_
     have HO299 := n2_
     have HO303 := n3_
     have HO307 := n4_
     have HO313 := n5_
     have BK284 := n6_
     have BK289 := n7_
     have BK308 := n8_
     have BK309 := n9_
     have HB := n10_
     clear n0_ n1_ n2_ n3_ n4_ n5_ n6_ n7_ n8_ n9_ n10_
     (try clear hb)
     (try clear hb2)
     (try clear hk)
     (try clear hi)
     (try clear ho0)
     obtain ⟨Ao48, co48, eo48⟩ := Kd.V_slice HO313.out
     (first | subst eo48 | (injection eo48 with f1_ f2_ f3_; have f4_ := f1_.symm; have f5_ := f3_.symm; clear f1_ f2_ f3_; subst f4_; subst f5_))
     refine hK.out _ _ ⟨(blk_cell BK309.out 0).trans rfl, (blk_cell BK309.out 1).trans rfl⟩ (fun hHeld => ?_)
     clear hK K
     refine norm_ (a' := ?_) ?_ ?_
     rotate_left
     ·
      show Act.put _ (some 41) _ = _
      simp only [Act.put, s1_, s2_, s3_, i64_w, i32_w]
      rfl
     refine one_ (i := 4) (N := some 42) #[true, true, true, true, true, false] rfl rfl (by kernel_rfl) (by decide) (fun K hK => ?_)
     refine goes_ Try.func17 (by kernel_rfl) rfl #[.agg #[.bool t304, .slice Ao43 t305.length co43], .agg #[.bool t310, .slice Ao48 t311.length co48]] (by rfl) rfl rfl (by (try simp only [List.map_toArray, List.map_cons, List.map_nil]); first | done | rfl | (simp only [List.length_drop, List.length_take]; rfl)) ?_
     with_reducible refine (spec_WideAdd.calls kj3 t304 _ _ t305 t310 _ _ t311 t314 t315 _ ?side1 ?side2 ?side3 ?side4 A31.out).mono ?_
     (case side1 => repeat (first | exact (Kd.V_reads' HO307.out).2.2 | (with_reducible refine Kd.C_alloc ?_ _) | (with_reducible refine Kd.C_drewN ?_ _) | (with_reducible refine Kd.C_drew ?_)))
     (case side2 => exact (Kd.V_reads' HO307.out).2.1)
     (case side3 => repeat (first | exact (Kd.V_reads' HO313.out).2.2 | (with_reducible refine Kd.C_alloc ?_ _) | (with_reducible refine Kd.C_drewN ?_ _) | (with_reducible refine Kd.C_drew ?_)))
     (case side4 => exact (Kd.V_reads' HO313.out).2.1)
     rintro e w49 ⟨v316, rfl, ho0, hb⟩
     refine ⟨_, rfl, ?_⟩
     have n0_ := a0_ (Kd.V_below (by (with_reducible repeat (first | apply v1_ | apply v2_ | apply v3_)); exact HO_285001.out) hb)
     have n1_ := a0_ (Kd.V_below (by (with_reducible repeat (first | apply v1_ | apply v2_ | apply v3_)); exact HO_290001.out) hb)
     have n2_ := a0_ (Kd.V_below (by (with_reducible repeat (first | apply v1_ | apply v2_ | apply v3_)); exact HO299.out) hb)
     have n3_ := a0_ (Kd.V_below (by (with_reducible repeat (first | apply v1_ | apply v2_ | apply v3_)); exact HO303.out) hb)
     have n4_ := a0_ (Kd.V_below (by (with_reducible repeat (first | apply v1_ | apply v2_ | apply v3_)); exact HO307.out) hb)
     have n5_ := a0_ (Kd.V_below (by (with_reducible repeat (first | apply v1_ | apply v2_ | apply v3_)); exact HO313.out) hb)
     have n6_ := a0_ (Kd.V_lower (v4_ (ok' := fun k_ => (P0_1_ k_ ∨ w.heap.size ≤ k_) ∧ k_ ≠ gb284 ∧ k_ ≠ gb289 ∧ k_ ≠ gb308 ∧ k_ ≠ gb309) ho0 (fun k_ hk_ => ⟨(.inr (Nat.le_trans (below_size (by repeat (first | (with_reducible first | exact HB.out | apply b1_ | apply b2_ | apply b3_ | refine b4_ ?_ GE284.out | refine b4_ ?_ GE289.out | refine b4_ ?_ GE308.out | refine b4_ ?_ GE309.out) | exact HB.out))) hk_)), (Kd.freshB (g := gb284) (o := .cells #[.bool true, .slice A0_1 l0_1.length c0_1] 29 (0, 0)) (by (with_reducible repeat (first | refine k1_ ?_ _ | refine k2_ ?_ | refine k3_ ?_ _)); exact BK284.out) k_ hk_), (Kd.freshB (g := gb289) (o := .cells #[.bool t285, .slice Ao10 t286.length co10] 29 (0, 0)) (by (with_reducible repeat (first | refine k1_ ?_ _ | refine k2_ ?_ | refine k3_ ?_ _)); exact BK289.out) k_ hk_), (Kd.freshB (g := gb308) (o := .cells #[.bool t300, .slice Ao40 t301.length co40] 29 (0, 0)) (by (with_reducible repeat (first | refine k1_ ?_ _ | refine k2_ ?_ | refine k3_ ?_ _)); exact BK308.out) k_ hk_), (Kd.freshB (g := gb309) (o := .cells #[.bool t304, .slice Ao43 t305.length co43] 29 (0, 0)) (by (with_reducible repeat (first | refine k1_ ?_ _ | refine k2_ ?_ | refine k3_ ?_ _)); exact BK309.out) k_ hk_)⟩)) (below_size (by repeat (first | (with_reducible first | exact HB.out | apply b1_ | apply b2_ | apply b3_ | refine b4_ ?_ GE284.out | refine b4_ ?_ GE289.out | refine b4_ ?_ GE308.out | refine b4_ ?_ GE309.out) | exact HB.out))))
     have n7_ := a0_ (blk_below (g := gb284) (o := .cells #[.bool true, .slice A0_1 l0_1.length c0_1] 29 (0, 0)) (by (with_reducible repeat (first | refine k1_ ?_ _ | refine k2_ ?_ | refine k3_ ?_ _)); exact BK284.out) hb)
     have n8_ := a0_ (blk_below (g := gb289) (o := .cells #[.bool t285, .slice Ao10 t286.length co10] 29 (0, 0)) (by (with_reducible repeat (first | refine k1_ ?_ _ | refine k2_ ?_ | refine k3_ ?_ _)); exact BK289.out) hb)
     have n9_ := a0_ (blk_below (g := gb308) (o := .cells #[.bool t300, .slice Ao40 t301.length co40] 29 (0, 0)) (by (with_reducible repeat (first | refine k1_ ?_ _ | refine k2_ ?_ | refine k3_ ?_ _)); exact BK308.out) hb)
     have n10_ := a0_ (blk_below (g := gb309) (o := .cells #[.bool t304, .slice Ao43 t305.length co43] 29 (0, 0)) (by (with_reducible repeat (first | refine k1_ ?_ _ | refine k2_ ?_ | refine k3_ ?_ _)); exact BK309.out) hb)
     have n11_ := a0_ (below_step (by repeat (first | (with_reducible first | exact HB.out | apply b1_ | apply b2_ | apply b3_ | refine b4_ ?_ GE284.out | refine b4_ ?_ GE289.out | refine b4_ ?_ GE308.out | refine b4_ ?_ GE309.out) | exact HB.out)) hb)
     clear HO_285001
     clear HO_290001
     clear HO299
     clear HO303
     clear HO307
     clear HO313
     clear BK284
     clear BK289
     clear BK308
     clear BK309
     clear HB
     have HO_285001 := n0_
     have HO_290001 := n1_
     have HO299 := n2_
     have HO303 := n3_
     have HO307 := n4_
     have HO313 := n5_
     have HO317 := n6_
     have BK284 := n7_
     have BK289 := n8_
     have BK308 := n9_
     have BK309 := n10_
     have HB := n11_
     clear n0_ n1_ n2_ n3_ n4_ n5_ n6_ n7_ n8_ n9_ n10_ n11_
     (try clear hb)
     (try clear hb2)
     (try clear hk)
     (try clear hi)
     (try clear ho0)
     obtain ⟨Ao51, co51, eo51⟩ := Kd.V_slice HO317.out
     (first | subst eo51 | (injection eo51 with f1_ f2_ f3_; have f4_ := f1_.symm; have f5_ := f3_.symm; clear f1_ f2_ f3_; subst f4_; subst f5_))
     refine hK.out _ _ ⟨(blk_cell BK309.out 0).trans rfl, (blk_cell BK309.out 1).trans rfl⟩ (fun hHeld => ?_)
     clear hK K
     refine norm_ (a' := ?_) ?_ ?_
     rotate_left
     ·
      show Act.put _ (some 42) _ = _
      simp only [Act.put, s1_, s2_, s3_, i64_w, i32_w]
      rfl
     refine one_ (i := 5) (N := none) #[true, true, true, true, true, true] rfl rfl (by kernel_rfl) (by decide) (fun K hK => ?_)
     have hs50 : w49.cell? ⟨gb284, 0, none⟩ = some (.bool true) := (blk_cell BK284.out 0).trans rfl
     have hfs50 := blk_frozen BK284.out 0
     have hns50_1 := NB289_284.out
     have hns50_2 := NB308_284.out
     have hns50_3 := NB309_284.out
     have hms50_1 := NB284_289.out
     have hms50_2 := NB284_308.out
     have hms50_3 := NB284_309.out
     have hs52 : w49.cell? ⟨gb284, 1, none⟩ = some (.slice A0_1 l0_1.length c0_1) := (blk_cell BK284.out 1).trans rfl
     have hfs52 := blk_frozen BK284.out 1
     have hns52_1 := NB289_284.out
     have hns52_2 := NB308_284.out
     have hns52_3 := NB309_284.out
     have hms52_1 := NB284_289.out
     have hms52_2 := NB284_308.out
     have hms52_3 := NB284_309.out
     refine skip_ (w1 := ?_) (by rfl) rfl ?_ ?_
     rotate_left
     ·
      go_simp
      rfl
     refine hK.out _ _ ⟨((cell_far (p := ⟨gb284, _, none⟩) NB309_284.out _).trans (((cell_far (p := ⟨gb284, _, none⟩) NB309_284.out _).trans (hHeld.1)))), ((cell_far (p := ⟨gb284, _, none⟩) NB309_284.out _).trans (((cell_far (p := ⟨gb284, _, none⟩) NB309_284.out _).trans (hHeld.2))))⟩ (fun hHeld => ?_)
     clear hK K
     refine done_ (by kernel_rfl) ?_
     try go_wp2
     go_meet
     case rel => exact ⟨_, (t314), (t315), (.slice Ao51 t315.length co51), H', ⟨by have := HJ3.out; first | omega | exact Nat.le_refl _⟩, ⟨by (with_reducible repeat (first | apply v1_ | apply v2_ | apply v3_)); exact v4_ (v5_ (p := ⟨gb284, 1, none⟩) (v5_ (p := ⟨gb284, 0, none⟩) (v4_ HO317.out (fun k_ hk => (⟨hk, hk.2.1⟩ : _ ∧ k_ ≠ gb284))) (fun _ hk => hk.2) (.bool t314)) (fun _ hk => hk.2) (.slice Ao51 t315.length co51)) (fun _ hk => ⟨hk.1.1, ⟨hk.1.2.1, hk.1.2.2.1⟩⟩)⟩, ⟨by (with_reducible repeat (first | apply v1_ | apply v2_ | apply v3_)); exact v4_ (v5_ (p := ⟨gb284, 1, none⟩) (v5_ (p := ⟨gb284, 0, none⟩) (v4_ HO_290001.out (fun k_ hk => (⟨hk, hk.2.1⟩ : _ ∧ k_ ≠ gb284))) (fun _ hk => hk.2) (.bool t314)) (fun _ hk => hk.2) (.slice Ao51 t315.length co51)) (fun _ hk => ⟨hk.1.1, ⟨hk.1.2.1, hk.1.2.2.1⟩⟩)⟩, ⟨by (with_reducible repeat (first | refine k1_ ?_ _ | refine k2_ ?_ | refine k3_ ?_ _)); refine blk_put (cs := #[.bool t314, .slice A0_1 l0_1.length c0_1]) ?_ 1 _ rfl; (with_reducible repeat (first | refine k1_ ?_ _ | refine k2_ ?_ | refine k3_ ?_ _)); refine blk_put (cs := #[.bool true, .slice A0_1 l0_1.length c0_1]) ?_ 0 _ rfl; (with_reducible repeat (first | refine k1_ ?_ _ | refine k2_ ?_ | refine k3_ ?_ _)); exact BK284.out⟩, ⟨by (with_reducible repeat (first | refine k1_ ?_ _ | refine k2_ ?_ | refine k3_ ?_ _)); refine blk_far ?_ NB289_284.out _; (with_reducible repeat (first | refine k1_ ?_ _ | refine k2_ ?_ | refine k3_ ?_ _)); refine blk_far ?_ NB289_284.out _; (with_reducible repeat (first | refine k1_ ?_ _ | refine k2_ ?_ | refine k3_ ?_ _)); exact BK289.out⟩, ⟨by repeat (first | (with_reducible first | exact HB.out | apply b1_ | apply b2_ | apply b3_ | refine b4_ ?_ GE284.out | refine b4_ ?_ GE289.out | refine b4_ ?_ GE308.out | refine b4_ ?_ GE309.out) | exact HB.out)⟩⟩
    ·
     replace c27 := Bool.eq_false_iff.mpr c27
     subst c27
     have H1 : (spec_ToWords.j1 kj3 a1 x7_3 false l0_1) = some (r1, r2) := by rw [if_neg (show ¬ (false = true) by decide)] at H; exact H
     clear H
     have H := H1
     clear H1
     have H' := a0_ H
     clear H
     go_wp2
     go_meet
     case rel => exact ⟨_, (false), (l0_1), (.slice A0_1 l0_1.length c0_1), H', ⟨by have := HJ3.out; first | omega | exact Nat.le_refl _⟩, ⟨by (with_reducible repeat (first | apply v1_ | apply v2_ | apply v3_)); exact HO_285001.out⟩, ⟨by (with_reducible repeat (first | apply v1_ | apply v2_ | apply v3_)); exact HO_290001.out⟩, ⟨by (with_reducible repeat (first | refine k1_ ?_ _ | refine k2_ ?_ | refine k3_ ?_ _)); exact BK284.out⟩, ⟨by (with_reducible repeat (first | refine k1_ ?_ _ | refine k2_ ?_ | refine k3_ ?_ _)); exact BK289.out⟩, ⟨by repeat (first | (with_reducible first | exact HB.out | apply b1_ | apply b2_ | apply b3_ | refine b4_ ?_ GE284.out | refine b4_ ?_ GE289.out) | exact HB.out)⟩⟩
   case rest =>
    clear HC24
    try clear c1
    try clear c2
    try clear p2
    try clear p6
    try clear c7
    try clear c17
    try clear c27
    obtain ⟨kq, x285000_23, x285001_23, u285001, HA, HJ23, HO_285001, HO_290001, BK284, BK289, HB⟩ := hcut
    cases kq with
    | zero => exact absurd HA.out (by simp [spec_ToWords.j1])
    | succ kj23 =>
     have H := HA.out
     clear HA
     simp only [spec_ToWords.j1] at H
     by_cases c53 : 0 ≤ a1
     ·
      rw [if_pos c53] at H
      have c53b0 := eq_true c53
      have c53b1 : decide (0 ≤ a1) = true := d2_ c53
      clear c53
      by_cases c54 : (a1 : Int).toNat ≤ 35184372088832
      ·
       rw [if_pos c54] at H
       have c54b0 := eq_true c54
       have c54b1 : decide ((a1 : Int).toNat ≤ 35184372088832) = true := d2_ c54
       clear c54
       obtain ⟨y318, hy318⟩ : ∃ y_ : List Int, y_ = (List.replicate (a1 : Int).toNat 0) := ⟨_, rfl⟩
       replace H : (spec_ToWords.l0 kj23 x7_3 y318 (y318.length : Int) 0 x285000_23 x285001_23) = some (r1, r2) := by first | (rw [hy318]; with_reducible exact H) | (have H2_ := (o2_ _ _).symm.trans H; rw [hy318]; with_reducible exact H2_) | (have H2_ := (o2_ _ _).symm.trans H; with_reducible exact H2_) | with_reducible exact H | (rw [hy318]; exact H) | exact H
       have Ny318 := a0_ hy318
       clear hy318
       have H' := a0_ H
       clear H
       go_wp2_with (first | ((with_reducible refine gate_dst (N := 44) rfl ?_); refine Kd.R_make (Kd.int .u64) _ 25 rfl (N := 44) rfl 22 _ _ rfl a1 rfl rfl Try.underlying22 (.int .u64 0) 8 info25 rfl (by decide) (by omega) 0 (ok := fun _ => True) (okp := fun _ => True) rfl (fun _ hk => hk) trivial (d1_ (by first | (with_reducible assumption) | assumption)) (Nat.le_trans (Nat.mul_le_mul_right _ (d1_ (by first | (with_reducible assumption) | assumption) : a1.toNat ≤ 35184372088832)) (by omega)) (Below.refl _ _) (Nat.le_refl _) ?_; intro v319 w55 ho56 hb hg_ hnew_; clear hg_ hnew_; (first | rw [← Ny318.out] at ho56 | (simp only [Int.reduceToNat] at ho56; rw [← Ny318.out] at ho56)); have n0_ := a0_ (Kd.V_elder' (by (with_reducible repeat (first | apply v1_ | apply v2_ | apply v3_)); exact HO_285001.out) (Kd.R_base ho56) hb); have n1_ := a0_ (Kd.V_elder' (by (with_reducible repeat (first | apply v1_ | apply v2_ | apply v3_)); exact HO_290001.out) (Kd.R_base ho56) hb); have n2_ := a0_ (Kd.R_lower (Kd.R_newM (M := fun k_ => (w.heap.size ≤ k_)) ho56 (below_size (by repeat (first | (with_reducible first | exact HB.out | apply b1_ | apply b2_ | apply b3_ | refine b4_ ?_ GE284.out | refine b4_ ?_ GE289.out) | exact HB.out))) (fun k_ h_ => h_)) (below_size (by repeat (first | (with_reducible first | exact HB.out | apply b1_ | apply b2_ | apply b3_ | refine b4_ ?_ GE284.out | refine b4_ ?_ GE289.out) | exact HB.out)))); have n3_ := a0_ (blk_below (g := gb284) (o := .cells #[.bool x285000_23, u285001] 29 (0, 0)) (by (with_reducible repeat (first | refine k1_ ?_ _ | refine k2_ ?_ | refine k3_ ?_ _)); exact BK284.out) hb); have n4_ := a0_ (blk_below (g := gb289) (o := .cells #[.bool t285, .slice Ao10 t286.length co10] 29 (0, 0)) (by (with_reducible repeat (first | refine k1_ ?_ _ | refine k2_ ?_ | refine k3_ ?_ _)); exact BK289.out) hb); have n5_ := a0_ (below_step (by repeat (first | (with_reducible first | exact HB.out | apply b1_ | apply b2_ | apply b3_ | refine b4_ ?_ GE284.out | refine b4_ ?_ GE289.out) | exact HB.out)) hb); clear HO_285001; clear HO_290001; clear BK284; clear BK289; clear HB; have HO_285001 := n0_; have HO_290001 := n1_; have HO320 := n2_; have BK284 := n3_; have BK289 := n4_; have HB := n5_; clear n0_ n1_ n2_ n3_ n4_ n5_; clear hb ho56; obtain ⟨Ao57, co57, eo57⟩ := Kd.R_slice HO320.out; subst eo57))
       go_loopg [47] kj23 (fun kq v47 w' => ∃ (x10_3 : List Int) (x47_3 : Int), v47 = .int .i64 x47_3 ∧ Aside0 (spec_ToWords.l0 kq x7_3 x10_3 (y318.length : Int) x47_3 x285000_23 x285001_23 = some (r1, r2)) ∧ Aside0 (kq ≤ kj23) ∧ Aside0 (Kd.R (Kd.int .u64) 25 w' w.heap.size (fun k_ => (w.heap.size ≤ k_)) (.slice Ao57 y318.length co57) x10_3) ∧ Aside0 (Kd.V (Kd.int .u32) 96 w' w.heap.size (fun k_ => (P0_1_ k_ ∨ w.heap.size ≤ k_) ∧ some k_ ≠ ((.slice Ao57 y318.length co57) : Value).ownBlock ∧ k_ ≠ gb284 ∧ k_ ≠ gb289) u285001 x285001_23) ∧ Aside0 (Kd.V (Kd.int .u32) 96 w' w.heap.size (fun k_ => (P0_1_ k_ ∨ w.heap.size ≤ k_) ∧ some k_ ≠ ((.slice Ao57 y318.length co57) : Value).ownBlock ∧ k_ ≠ gb284 ∧ k_ ≠ gb289) (.slice Ao10 t286.length co10) t286) ∧ Aside0 (w'.heap[gb284]? = some (.cells #[.bool x285000_23, u285001] 29 (0, 0))) ∧ Aside0 (w'.heap[gb289]? = some (.cells #[.bool t285, (.slice Ao10 t286.length co10)] 29 (0, 0))) ∧ Aside0 (Below w.heap.size w w'))
       case atStart => exact ⟨(y318), (0), (by first | rfl | (simp; done) | (simp [*]; done)), H', ⟨Nat.le_refl _⟩, ⟨by (with_reducible repeat (first | apply r1_ | apply r2_ | apply r3_)); exact Kd.R_mono HO320.out (fun _ hk => hk.1)⟩, ⟨by (with_reducible repeat (first | apply v1_ | apply v2_ | apply v3_)); exact v4_ HO_285001.out (fun _ hk => ⟨hk.1.1, ⟨hk.2, ⟨hk.1.2.1, hk.1.2.2⟩⟩⟩)⟩, ⟨by (with_reducible repeat (first | apply v1_ | apply v2_ | apply v3_)); exact v4_ HO_290001.out (fun _ hk => ⟨hk.1.1, ⟨hk.2, ⟨hk.1.2.1, hk.1.2.2⟩⟩⟩)⟩, ⟨by (with_reducible repeat (first | refine k1_ ?_ _ | refine k2_ ?_ | refine k3_ ?_ _)); exact BK284.out⟩, ⟨by (with_reducible repeat (first | refine k1_ ?_ _ | refine k2_ ?_ | refine k3_ ?_ _)); exact BK289.out⟩, ⟨by repeat (first | (with_reducible first | exact HB.out | apply b1_ | apply b2_ | apply b3_ | refine b4_ ?_ GE284.out | refine b4_ ?_ GE289.out) | exact HB.out)⟩⟩
       case round =>
        clear H'
        try clear c1
        try clear c2
        try clear p2
        try clear c5
        try clear p6
        try clear c7
        try clear c17
        try clear c27
        try clear c53
        try clear c53b0
        try clear c53b1
        try clear c54
        try clear c54b0
        try clear c54b1
        try clear p2
        try clear p6
        obtain ⟨x10_3, x47_3, rfl, HA, HK3, HO_10, HO_285001, HO_290001, BK284, BK289, HB⟩ := hrel
        have hl10_3 := (Kd.R_reads' HO_10.out).1
        rw [hl10_3] at HO_10
        (try simp only [hl10_3])
        (try simp only [hl10_3] at BK284)
        (try simp only [hl10_3] at BK289)
        (try simp only [hl10_3] at HO_285001)
        (try simp only [hl10_3] at HO_290001)
        cases gk with
        | zero => exact absurd HA.out (by simp [spec_ToWords.l0])
        | succ k3 =>
         have H := HA.out
         clear HA
         simp only [spec_ToWords.l0] at H
         by_cases c58 : x47_3 < (y318.length : Int)
         ·
          rw [if_pos c58] at H
          have c58b0 : decide (x47_3 < (y318.length : Int)) = true := d2_ c58
          have c58bz : decide (x47_3 < (x10_3.length : Int)) = true := hl10_3 ▸ c58b0
          clear c58
          have H' := a0_ H
          clear H
          go_wp2
          go_loopg [12] k3 (fun kq v12 w' => ∃ (x10_4 : List Int) (x12_4 : Int), v12 = .int .i64 x12_4 ∧ Aside0 (spec_ToWords.l1 kq x7_3 x10_4 x47_3 x12_4 (y318.length : Int) x47_3 x285000_23 x285001_23 = some (r1, r2)) ∧ Aside0 (kq ≤ k3) ∧ Aside0 (Kd.R (Kd.int .u64) 25 w' w.heap.size (fun k_ => (w.heap.size ≤ k_)) (.slice Ao57 x10_3.length co57) x10_4) ∧ Aside0 (Kd.V (Kd.int .u32) 96 w' w.heap.size (fun k_ => (P0_1_ k_ ∨ w.heap.size ≤ k_) ∧ some k_ ≠ ((.slice Ao57 x10_3.length co57) : Value).ownBlock ∧ k_ ≠ gb284 ∧ k_ ≠ gb289) u285001 x285001_23) ∧ Aside0 (Kd.V (Kd.int .u32) 96 w' w.heap.size (fun k_ => (P0_1_ k_ ∨ w.heap.size ≤ k_) ∧ some k_ ≠ ((.slice Ao57 x10_3.length co57) : Value).ownBlock ∧ k_ ≠ gb284 ∧ k_ ≠ gb289) (.slice Ao10 t286.length co10) t286) ∧ Aside0 (w'.heap[gb284]? = some (.cells #[.bool x285000_23, u285001] 29 (0, 0))) ∧ Aside0 (w'.heap[gb289]? = some (.cells #[.bool t285, (.slice Ao10 t286.length co10)] 29 (0, 0))) ∧ Aside0 (Below w.heap.size w w'))
          case atStart => exact ⟨(x10_3), (0), (by first | rfl | (simp; done) | (simp [*]; done)), H', ⟨Nat.le_refl _⟩, ⟨by (try simp only [hl10_3]); (with_reducible repeat (first | apply r1_ | apply r2_ | apply r3_)); exact HO_10.out⟩, ⟨by (try simp only [hl10_3]); (with_reducible repeat (first | apply v1_ | apply v2_ | apply v3_)); exact HO_285001.out⟩, ⟨by (try simp only [hl10_3]); (with_reducible repeat (first | apply v1_ | apply v2_ | apply v3_)); exact HO_290001.out⟩, ⟨by (try simp only [hl10_3]); (with_reducible repeat (first | refine k1_ ?_ _ | refine k2_ ?_ | refine k3_ ?_ _)); exact BK284.out⟩, ⟨by (try simp only [hl10_3]); (with_reducible repeat (first | refine k1_ ?_ _ | refine k2_ ?_ | refine k3_ ?_ _)); exact BK289.out⟩, ⟨by repeat (first | (with_reducible first | exact HB.out | apply b1_ | apply b2_ | apply b3_ | refine b4_ ?_ GE284.out | refine b4_ ?_ GE289.out) | exact HB.out)⟩⟩
          case round =>
           clear H'
           try clear c1
           try clear c2
           try clear p2
           try clear c5
           try clear p6
           try clear c7
           try clear c17
           try clear c27
           try clear c53
           try clear c53b0
           try clear c53b1
           try clear c54
           try clear c54b0
           try clear c54b1
           try clear c58
           try clear c58b0
           try clear p2
           try clear p6
           obtain ⟨x10_4, x12_4, rfl, HA, HK4, HO_10, HO_285001, HO_290001, BK284, BK289, HB⟩ := hrel
           have hl10_4 := (Kd.R_reads' HO_10.out).1
           rw [hl10_4] at HO_10
           (try simp only [hl10_4])
           (try simp only [hl10_4] at BK284)
           (try simp only [hl10_4] at BK289)
           (try simp only [hl10_4] at HO_285001)
           (try simp only [hl10_4] at HO_290001)
           cases gk with
           | zero => exact absurd HA.out (by simp [spec_ToWords.l1])
           | succ k4 =>
            have H := HA.out
            clear HA
            simp only [spec_ToWords.l1] at H
            by_cases c59 : x12_4 < 2
            ·
             rw [if_pos c59] at H
             have c59b0 : decide (x12_4 < 2) = true := d2_ c59
             clear c59
             by_cases c60 : (wrap64 ((wrap64 (2 * x47_3)) + x12_4)) < (x285001_23.length : Int)
             ·
              rw [if_pos c60] at H
              have c60b0 : decide ((wrap64 ((wrap64 (2 * x47_3)) + x12_4)) < (x285001_23.length : Int)) = true := d2_ c60
              clear c60
              by_cases c61 : 0 ≤ x47_3
              ·
               rw [if_pos c61] at H
               have c61b0 : decide (0 ≤ x47_3) = true := d2_ c61
               clear c61
               by_cases c62 : x47_3 < (x10_4.length : Int)
               ·
                rw [if_pos c62] at H
                have c62b0 : decide (x47_3 < (x10_4.length : Int)) = true := d2_ c62
                clear c62
                obtain ⟨ji63, hji63⟩ : ∃ j_ : Int, (wrap64 ((wrap64 (2 * x47_3)) + x12_4)) = j_ := ⟨_, rfl⟩
                replace H : (if 0 ≤ (ji63) then (if 0 ≤ (wrap64 (32 * x12_4)) then (spec_ToWords.l1 k4 x7_3 (x10_4.set (x47_3 : Int).toNat (Go.bits .or .u64 (rd x10_4 x47_3) (shl .u64 (IntKind.u64.wrap (rd x285001_23 (ji63))) (wrap64 (32 * x12_4))))) x47_3 (wrap64 (x12_4 + 1)) (y318.length : Int) x47_3 x285000_23 x285001_23) else (none)) else (none)) = some (r1, r2) := by first | (rw [hji63] at H; exact H) | (simp only [hji63] at H ⊢; exact H)
                (try rw [hji63] at c60b0)
                have hji63w : (IntKind.i64.wrap ((wrap64 (2 * x47_3)) + x12_4)) = ji63 := (i64_w _).trans hji63
                by_cases c64 : 0 ≤ (ji63)
                ·
                 rw [if_pos c64] at H
                 have c64b0 : decide (0 ≤ (ji63)) = true := d2_ c64
                 clear c64
                 obtain ⟨ji65, hji65⟩ : ∃ j_ : Int, (wrap64 (32 * x12_4)) = j_ := ⟨_, rfl⟩
                 replace H : (if 0 ≤ (ji65) then (spec_ToWords.l1 k4 x7_3 (x10_4.set (x47_3 : Int).toNat (Go.bits .or .u64 (rd x10_4 x47_3) (shl .u64 (IntKind.u64.wrap (rd x285001_23 (ji63))) (ji65)))) x47_3 (wrap64 (x12_4 + 1)) (y318.length : Int) x47_3 x285000_23 x285001_23) else (none)) = some (r1, r2) := by first | (rw [hji65] at H; exact H) | (simp only [hji65] at H ⊢; exact H)
                 have hji65w : (IntKind.i64.wrap (32 * x12_4)) = ji65 := (i64_w _).trans hji65
                 by_cases c66 : 0 ≤ (ji65)
                 ·
                  rw [if_pos c66] at H
                  have c66b0 := eq_true c66
                  have c66b1 : decide (0 ≤ (ji65)) = true := d2_ c66
                  clear c66
                  obtain ⟨ji67, hji67⟩ : ∃ j_ : Int, (shl .u64 (IntKind.u64.wrap (rd x285001_23 (ji63))) (ji65)) = j_ := ⟨_, rfl⟩
                  replace H : (spec_ToWords.l1 k4 x7_3 (x10_4.set (x47_3 : Int).toNat (Go.bits .or .u64 (rd x10_4 x47_3) (ji67))) x47_3 (wrap64 (x12_4 + 1)) (y318.length : Int) x47_3 x285000_23 x285001_23) = some (r1, r2) := by first | (rw [hji67] at H; exact H) | (simp only [hji67] at H ⊢; exact H)
                  have hji67_ : (IntKind.u64.wrap ((IntKind.u64.wrap (rd x285001_23 (ji63))) * 2 ^ min (ji65).toNat 64)) = ji67 := hji67
                  have hji67z : (ji65) ≤ 64 → (IntKind.u64.wrap ((IntKind.u64.wrap (rd x285001_23 (ji63))) * 2 ^ (ji65).toNat)) = ji67 := shl_small hji67
                  obtain ⟨y323, hy323⟩ : ∃ y_ : List Int, y_ = (x10_4.set (x47_3 : Int).toNat (Go.bits .or .u64 (rd x10_4 x47_3) (ji67))) := ⟨_, rfl⟩
                  replace H : (spec_ToWords.l1 k4 x7_3 y323 x47_3 (wrap64 (x12_4 + 1)) (y318.length : Int) x47_3 x285000_23 x285001_23) = some (r1, r2) := by first | (rw [hy323]; with_reducible exact H) | (have H2_ := (o2_ _ _).symm.trans H; rw [hy323]; with_reducible exact H2_) | (have H2_ := (o2_ _ _).symm.trans H; with_reducible exact H2_) | with_reducible exact H | (rw [hy323]; exact H) | exact H
                  have Ny323 := a0_ hy323
                  clear hy323
                  have H' := a0_ H
                  clear H
                  have hnb69 := NB284_289.out
                  have hnc69 := NB289_284.out
                  have hcz70_0 : wr.cell? ⟨gb284, 0, none⟩ = some (.bool x285000_23) := (blk_cell BK284.out 0).trans rfl
                  have hcz70_1 : wr.cell? ⟨gb284, 1, none⟩ = some (u285001) := (blk_cell BK284.out 1).trans rfl
                  have hfz70_0 := blk_frozen BK284.out 0
                  have hfz70_1 := blk_frozen BK284.out 1
                  obtain ⟨Ao71, co71, eo71⟩ := Kd.V_slice HO_285001.out
                  subst eo71
                  try go_wp2
                  have n0_ := a0_ (r3_ HO_10.out)
                  have n1_ := a0_ (v3_ HO_285001.out)
                  have n2_ := a0_ (v3_ HO_290001.out)
                  have n3_ := a0_ (k2_ BK284.out)
                  have n4_ := a0_ (k2_ BK289.out)
                  have n5_ := a0_ (b3_ HB.out)
                  clear HO_10
                  clear HO_285001
                  clear HO_290001
                  clear BK284
                  clear BK289
                  clear HB
                  have HO_10 := n0_
                  have HO_285001 := n1_
                  have HO_290001 := n2_
                  have BK284 := n3_
                  have BK289 := n4_
                  have HB := n5_
                  clear n0_ n1_ n2_ n3_ n4_ n5_
                  have p321 : 0 ≤ (x47_3 : Int) := d1_ (by first | (with_reducible assumption) | assumption)
                  have q321 : x47_3 < (x10_4.length : Int) := d1_ (by first | (with_reducible assumption) | assumption)
                  obtain ⟨ad321, e321, hx321_0⟩ := Kd.at_int (Kd.R_reads' HO_10.out).2.2 x47_3 p321 q321
                  cases e321
                  replace p321 := eq_true p321
                  replace q321 := eq_true q321
                  have p322 : 0 ≤ ((ji63) : Int) := d1_ (by first | (with_reducible assumption) | assumption)
                  have q322 : (ji63) < (x285001_23.length : Int) := d1_ (by first | (with_reducible assumption) | assumption)
                  obtain ⟨ad322, e322, hx322_0⟩ := Kd.at_int (Kd.V_reads' HO_285001.out).2.2 (ji63) p322 q322
                  cases e322
                  replace p322 := eq_true p322
                  replace q322 := eq_true q322
                  have p68 : 0 ≤ (x47_3 : Int) := d1_ (by first | (with_reducible assumption) | assumption)
                  have q68 : (x47_3 : Int) < ((x10_4.length : Int) : Int) := d1_ (by first | (with_reducible assumption) | assumption)
                  obtain ⟨go68, co68, eo68, gb68, gl68, cl68, HG68⟩ := Kd.R_form HO_10.out (by omega)
                  (first | cases eo68 | (injection eo68 with ea_ en_ ec_; (first | subst ea_ | (injection ea_ with ea_; subst ea_)); subst ec_; clear en_))
                  have GB68 := a0_ gb68
                  have GG68 := a0_ HG68
                  clear gb68 gl68 HG68
                  (first | simp only [add_plain] at hx321_0 | skip)
                  obtain ⟨hx68_0, hf68_0⟩ := Kd.R_celln 0 HO_10.out (x47_3 : Int) p68 q68
                  replace p68 := eq_true p68
                  replace q68 := eq_true q68
                  have HP73 := Kd.R_putn HO_10.out (x47_3 : Int) (Go.bits .or .u64 (rd x10_4 x47_3) (ji67))
                  rw [← Ny323.out] at HP73
                  have HQ73 := a0_ HP73
                  clear HP73
                  refine start_ (n := 19) (S := fun w' => w'.cell? ⟨gb284, 0, none⟩ = some (.bool x285000_23) ∧ w'.cell? ⟨gb284, 1, none⟩ = some (.slice (some ad322) x285001_23.length co71) ∧ w'.cell? ⟨go68, (x47_3).toNat, none⟩ = some (.int .u64 (rd x10_4 x47_3)) ∧ w'.cell? (ad322.add ((ji63)).toNat) = some (.int .u32 (rd x285001_23 (ji63)))) (ds := [18]) #[false, false, false, false, false, false, false, false, false, false, false, false, false, false, false, false, false, false, false] (by kernel_rfl) rfl rfl ⟨(blk_cell BK284.out 0).trans rfl, (blk_cell BK284.out 1).trans rfl, hx321_0, hx322_0⟩ (fun hHeld => ?_); refine with_tabW spec_ToWords.tab14 spec_ToWords.bits14 (fun HT_ HW_ => ?_)
                  generalize wr.drew = w72 at HO_10 HO_285001 HO_290001 BK284 BK289 HB GG68 HQ73 hf68_0 hx321_0 hx322_0 hx68_0 hHeld ⊢
                  refine pure_ (i := 0) (N := some 62) (v := ?_) (a' := ?_) #[true, false, false, false, false, false, false, false, false, false, false, false, false, false, false, false, false, false, false] rfl rfl (any_of HT_.out (by kernel_rfl)) (fun _ _ _ h => h) (Or.inl ⟨by rfl, ?_⟩) ?_ ?_
                  rotate_left
                  ·
                   intro w'
                   go_simp
                   with_reducible rfl
                  rotate_left
                  ·
                   simp only [Act.put, s1_, s2_, s3_, i64_w, i32_w]
                   rfl
                  refine pure_ (i := 1) (N := some 63) (v := ?_) (a' := ?_) #[true, true, false, false, false, false, false, false, false, false, false, false, false, false, false, false, false, false, false] rfl rfl (any_of HT_.out (by kernel_rfl)) (fun _ _ _ h => h) (Or.inl ⟨by rfl, ?_⟩) ?_ ?_
                  rotate_left
                  ·
                   intro w'
                   go_simp
                   with_reducible rfl
                  rotate_left
                  ·
                   simp only [Act.put, s1_, s2_, s3_, i64_w, i32_w]
                   rfl
                  refine pure_ (i := 2) (N := some 64) (v := ?_) (a' := ?_) #[true, true, true, false, false, false, false, false, false, false, false, false, false, false, false, false, false, false, false] rfl rfl (any_of HT_.out (by kernel_rfl)) (fun _ _ _ h => h) (Or.inl ⟨by rfl, ?_⟩) ?_ ?_
                  rotate_left
                  ·
                   intro w'
                   go_simp
                   with_reducible rfl
                  rotate_left
                  ·
                   simp only [Act.put, s1_, s2_, s3_, i64_w, i32_w]
                   rfl
                  refine pure_ (i := 4) (N := some 66) (v := ?_) (a' := ?_) #[true, true, true, false, true, false, false, false, false, false, false, false, false, false, false, false, false, false, false] rfl rfl (any_of HT_.out (by kernel_rfl)) (fun _ _ _ h => h) (Or.inl ⟨by rfl, ?_⟩) ?_ ?_
                  rotate_left
                  ·
                   intro w'
                   go_simp
                   with_reducible rfl
                  rotate_left
                  ·
                   simp only [Act.put, s1_, s2_, s3_, i64_w, i32_w]
                   rfl
                  refine pure_ (i := 6) (N := some 68) (v := ?_) (a' := ?_) #[true, true, true, false, true, false, true, false, false, false, false, false, false, false, false, false, false, false, false] rfl rfl (any_of HT_.out (by kernel_rfl)) (fun _ _ _ h => h) (Or.inl ⟨by rfl, ?_⟩) ?_ ?_
                  rotate_left
                  ·
                   intro w'
                   go_simp
                   with_reducible rfl
                  rotate_left
                  ·
                   simp only [Act.put, s1_, s2_, s3_, i64_w, i32_w]
                   rfl
                  refine pure_ (i := 7) (N := some 69) (v := ?_) (a' := ?_) #[true, true, true, false, true, false, true, true, false, false, false, false, false, false, false, false, false, false, false] rfl rfl (any_of HT_.out (by kernel_rfl)) (fun _ _ _ h => h) (Or.inl ⟨by rfl, ?_⟩) ?_ ?_
                  rotate_left
                  ·
                   intro w'
                   go_simp
                   with_reducible rfl
                  rotate_left
                  ·
                   simp only [Act.put, s1_, s2_, s3_, i64_w, i32_w]
                   rfl
                  refine pure_ (i := 8) (N := some 70) (v := ?_) (a' := ?_) #[true, true, true, false, true, false, true, true, true, false, false, false, false, false, false, false, false, false, false] rfl rfl (any_of HT_.out (by kernel_rfl)) (fun _ _ _ h => h) (Or.inl ⟨by rfl, ?_⟩) ?_ ?_
                  rotate_left
                  ·
                   intro w'
                   go_simp
                   with_reducible rfl
                  rotate_left
                  ·
                   simp only [Act.put, s1_, s2_, s3_, i64_w, i32_w]
                   rfl
                  refine pure_ (i := 9) (N := some 71) (v := ?_) (a' := ?_) #[true, true, true, false, true, false, true, true, true, true, false, false, false, false, false, false, false, false, false] rfl rfl (any_of HT_.out (by kernel_rfl)) (fun _ _ _ h => h) (Or.inl ⟨by rfl, ?_⟩) ?_ ?_
                  rotate_left
                  ·
                   intro w'
                   go_simp
                   with_reducible rfl
                  rotate_left
                  ·
                   simp only [Act.put, s1_, s2_, s3_, i64_w, i32_w]
                   rfl
                  refine pure_ (i := 13) (N := some 75) (v := ?_) (a' := ?_) #[true, true, true, false, true, false, true, true, true, true, false, false, false, true, false, false, false, false, false] rfl rfl (any_of HT_.out (by kernel_rfl)) (fun _ _ _ h => h) (Or.inl ⟨by rfl, ?_⟩) ?_ ?_
                  rotate_left
                  ·
                   intro w'
                   go_simp
                   with_reducible rfl
                  rotate_left
                  ·
                   simp only [Act.put, s1_, s2_, s3_, i64_w, i32_w]
                   rfl
                  refine pure_ (i := 14) (N := some 76) (v := ?_) (a' := ?_) #[true, true, true, false, true, false, true, true, true, true, false, false, false, true, true, false, false, false, false] rfl rfl (any_of HT_.out (by kernel_rfl)) (fun _ _ _ h => h) (Or.inl ⟨by rfl, ?_⟩) ?_ ?_
                  rotate_left
                  ·
                   intro w'
                   go_simp
                   with_reducible rfl
                  rotate_left
                  ·
                   simp only [Act.put, s1_, s2_, s3_, i64_w, i32_w]
                   rfl
                  refine take_ (i := 3) (N := some 65) (v := ?_) (a' := ?_) #[true, true, true, true, true, false, true, true, true, true, false, false, false, true, true, false, false, false, false] rfl rfl (take_ofW HT_.out HW_.out (by kernel_rfl)) (fun _ _ _ h => h) (Or.inl ⟨by rfl, ?_⟩) hHeld ?_ ?_
                  rotate_left
                  ·
                   rintro w' ⟨s0, s1, s2, s3⟩
                   go_simp
                   with_reducible rfl
                  rotate_left
                  ·
                   simp only [Act.put, s1_, s2_, s3_, i64_w, i32_w]
                   rfl
                  refine take_ (i := 5) (N := some 67) (v := ?_) (a' := ?_) #[true, true, true, true, true, true, true, true, true, true, false, false, false, true, true, false, false, false, false] rfl rfl (take_ofW HT_.out HW_.out (by kernel_rfl)) (fun _ _ _ h => h) (Or.inl ⟨by rfl, ?_⟩) hHeld ?_ ?_
                  rotate_left
                  ·
                   rintro w' ⟨s0, s1, s2, s3⟩
                   go_simp
                   with_reducible rfl
                  rotate_left
                  ·
                   simp only [Act.put, s1_, s2_, s3_, i64_w, i32_w]
                   rfl
                  refine pure_ (i := 10) (N := some 72) (v := ?_) (a' := ?_) #[true, true, true, true, true, true, true, true, true, true, true, false, false, true, true, false, false, false, false] rfl rfl (any_of HT_.out (by kernel_rfl)) (fun _ _ _ h => h) (Or.inl ⟨by rfl, ?_⟩) ?_ ?_
                  rotate_left
                  ·
                   intro w'
                   go_simp
                   with_reducible rfl
                  rotate_left
                  ·
                   simp only [Act.put, s1_, s2_, s3_, i64_w, i32_w]
                   rfl
                  refine take_ (i := 11) (N := some 73) (v := ?_) (a' := ?_) #[true, true, true, true, true, true, true, true, true, true, true, true, false, true, true, false, false, false, false] rfl rfl (take_ofW HT_.out HW_.out (by kernel_rfl)) (fun _ _ _ h => h) (Or.inl ⟨by rfl, ?_⟩) hHeld ?_ ?_
                  rotate_left
                  ·
                   rintro w' ⟨s0, s1, s2, s3⟩
                   go_simp
                   with_reducible rfl
                  rotate_left
                  ·
                   simp only [Act.put, s1_, s2_, s3_, i64_w, i32_w]
                   rfl
                  refine pure_ (i := 12) (N := some 74) (v := ?_) (a' := ?_) #[true, true, true, true, true, true, true, true, true, true, true, true, true, true, true, false, false, false, false] rfl rfl (any_of HT_.out (by kernel_rfl)) (fun _ _ _ h => h) (Or.inl ⟨by rfl, ?_⟩) ?_ ?_
                  rotate_left
                  ·
                   intro w'
                   go_simp
                   with_reducible rfl
                  rotate_left
                  ·
                   simp only [Act.put, s1_, s2_, s3_, i64_w, i32_w]
                   rfl
                  refine pure_ (i := 15) (N := some 77) (v := ?_) (a' := ?_) #[true, true, true, true, true, true, true, true, true, true, true, true, true, true, true, true, false, false, false] rfl rfl (any_of HT_.out (by kernel_rfl)) (fun _ _ _ h => h) (Or.inl ⟨by rfl, ?_⟩) ?_ ?_
                  rotate_left
                  ·
                   intro w'
                   go_simp
                   with_reducible rfl
                  rotate_left
                  ·
                   simp only [Act.put, s1_, s2_, s3_, i64_w, i32_w]
                   rfl
                  refine pure_ (i := 16) (N := some 78) (v := ?_) (a' := ?_) #[true, true, true, true, true, true, true, true, true, true, true, true, true, true, true, true, true, false, false] rfl rfl (any_of HT_.out (by kernel_rfl)) (fun _ _ _ h => h) (Or.inl ⟨by rfl, ?_⟩) ?_ ?_
                  rotate_left
                  ·
                   intro w'
                   go_simp
                   with_reducible rfl
                  rotate_left
                  ·
                   simp only [Act.put, s1_, s2_, s3_, i64_w, i32_w]
                   rfl
                  refine pure_ (i := 17) (N := some 79) (v := ?_) (a' := ?_) #[true, true, true, true, true, true, true, true, true, true, true, true, true, true, true, true, true, true, false] rfl rfl (any_of HT_.out (by kernel_rfl)) (fun _ _ _ h => h) (Or.inl ⟨by rfl, ?_⟩) ?_ ?_
                  rotate_left
                  ·
                   intro w'
                   go_simp
                   with_reducible rfl
                  rotate_left
                  ·
                   simp only [Act.put, s1_, s2_, s3_, i64_w, i32_w]
                   rfl
                  refine last_ (i := 18) (N := none) #[true, true, true, true, true, true, true, true, true, true, true, true, true, true, true, true, true, true, true] rfl rfl (one_of HT_.out (by kernel_rfl)) (by decide) (fun K hK => ?_)
                  refine skip_ (w1 := ?_) (by rfl) rfl ?_ ?_
                  rotate_left
                  ·
                   go_simp
                   rfl
                  refine hK.out _ _ ?_
                  clear hK K
                  refine done_ (done_of HT_.out (by kernel_rfl)) ?_
                  try go_wp2
                  (try simp only [← hl10_4])
                  go_roundg k4
                  case measure => have := HJ3.out; have := HJ23.out; have := HK3.out; have := HK4.out; omega
                  case rel => exact ⟨(y323), (wrap64 (x12_4 + 1)), (by first | rfl | (simp; done) | (simp [*]; done)), H', ⟨by have := HJ3.out; have := HJ23.out; have := HK3.out; have := HK4.out; omega⟩, ⟨by (try simp only [hl10_3]); (try simp only [hl10_4]); (with_reducible repeat (first | apply r1_ | apply r2_ | apply r3_)); exact HQ73.out⟩, ⟨by (try simp only [hl10_3]); (try simp only [hl10_4]); (with_reducible repeat (first | apply v1_ | apply v2_ | apply v3_)); exact v4_ (v5_ (p := ⟨go68, (x47_3 : Int).toNat, none⟩) (v4_ HO_285001.out (fun k_ hk => (⟨hk, fun e_ => hk.2.1 (by rw [e_]; rfl)⟩ : _ ∧ k_ ≠ go68))) (fun _ hk => hk.2) (.int .u64 (Go.bits .or .u64 (rd x10_4 x47_3) (ji67)))) (fun _ hk => ⟨hk.1.1, ⟨hk.1.2.1, ⟨hk.1.2.2.1, hk.1.2.2.2⟩⟩⟩)⟩, ⟨by (try simp only [hl10_3]); (try simp only [hl10_4]); (with_reducible repeat (first | apply v1_ | apply v2_ | apply v3_)); exact v4_ (v5_ (p := ⟨go68, (x47_3 : Int).toNat, none⟩) (v4_ HO_290001.out (fun k_ hk => (⟨hk, fun e_ => hk.2.1 (by rw [e_]; rfl)⟩ : _ ∧ k_ ≠ go68))) (fun _ hk => hk.2) (.int .u64 (Go.bits .or .u64 (rd x10_4 x47_3) (ji67)))) (fun _ hk => ⟨hk.1.1, ⟨hk.1.2.1, ⟨hk.1.2.2.1, hk.1.2.2.2⟩⟩⟩)⟩, ⟨by (try simp only [hl10_3]); (try simp only [hl10_4]); (with_reducible repeat (first | refine k1_ ?_ _ | refine k2_ ?_ | refine k3_ ?_ _)); refine blk_far ?_ (by have h_ := Kd.R_ne HO_10.out BK284.out (by decide); intro e_; exact h_ (by rw [e_]; rfl)) _; (with_reducible repeat (first | refine k1_ ?_ _ | refine k2_ ?_ | refine k3_ ?_ _)); exact BK284.out⟩, ⟨by (try simp only [hl10_3]); (try simp only [hl10_4]); (with_reducible repeat (first | refine k1_ ?_ _ | refine k2_ ?_ | refine k3_ ?_ _)); refine blk_far ?_ (by have h_ := Kd.R_ne HO_10.out BK289.out (by decide); intro e_; exact h_ (by rw [e_]; rfl)) _; (with_reducible repeat (first | refine k1_ ?_ _ | refine k2_ ?_ | refine k3_ ?_ _)); exact BK289.out⟩, ⟨by repeat (first | (with_reducible first | exact HB.out | apply b1_ | apply b2_ | apply b3_ | refine b4_ ?_ GB68.out | refine b4_ ?_ GE284.out | refine b4_ ?_ GE289.out) | exact HB.out)⟩⟩
                 ·
                  rw [if_neg c66] at H
                  exact absurd H (by simp)
                ·
                 rw [if_neg c64] at H
                 exact absurd H (by simp)
               ·
                rw [if_neg c62] at H
                exact absurd H (by simp)
              ·
               rw [if_neg c61] at H
               exact absurd H (by simp)
             ·
              rw [if_neg c60] at H
              have c60b0 : decide ((wrap64 ((wrap64 (2 * x47_3)) + x12_4)) < (x285001_23.length : Int)) = false := d3_ c60
              clear c60
              have H' := a0_ H
              clear H
              have hnb74 := NB284_289.out
              have hnc74 := NB289_284.out
              have hcz75_0 : wr.cell? ⟨gb284, 0, none⟩ = some (.bool x285000_23) := (blk_cell BK284.out 0).trans rfl
              have hcz75_1 : wr.cell? ⟨gb284, 1, none⟩ = some (u285001) := (blk_cell BK284.out 1).trans rfl
              have hfz75_0 := blk_frozen BK284.out 0
              have hfz75_1 := blk_frozen BK284.out 1
              obtain ⟨Ao76, co76, eo76⟩ := Kd.V_slice HO_285001.out
              subst eo76
              go_wp2
              (try simp only [← hl10_4])
              go_roundg k4
              case measure => have := HJ3.out; have := HJ23.out; have := HK3.out; have := HK4.out; omega
              case rel => exact ⟨(x10_4), (wrap64 (x12_4 + 1)), (by first | rfl | (simp; done) | (simp [*]; done)), H', ⟨by have := HJ3.out; have := HJ23.out; have := HK3.out; have := HK4.out; omega⟩, ⟨by (try simp only [hl10_3]); (try simp only [hl10_4]); (with_reducible repeat (first | apply r1_ | apply r2_ | apply r3_)); exact HO_10.out⟩, ⟨by (try simp only [hl10_3]); (try simp only [hl10_4]); (with_reducible repeat (first | apply v1_ | apply v2_ | apply v3_)); exact HO_285001.out⟩, ⟨by (try simp only [hl10_3]); (try simp only [hl10_4]); (with_reducible repeat (first | apply v1_ | apply v2_ | apply v3_)); exact HO_290001.out⟩, ⟨by (try simp only [hl10_3]); (try simp only [hl10_4]); (with_reducible repeat (first | refine k1_ ?_ _ | refine k2_ ?_ | refine k3_ ?_ _)); exact BK284.out⟩, ⟨by (try simp only [hl10_3]); (try simp only [hl10_4]); (with_reducible repeat (first | refine k1_ ?_ _ | refine k2_ ?_ | refine k3_ ?_ _)); exact BK289.out⟩, ⟨by repeat (first | (with_reducible first | exact HB.out | apply b1_ | apply b2_ | apply b3_ | refine b4_ ?_ GE284.out | refine b4_ ?_ GE289.out) | exact HB.out)⟩⟩
            ·
             rw [if_neg c59] at H
             have c59b0 : decide (x12_4 < 2) = false := d3_ c59
             clear c59
             have H' := a0_ H
             clear H
             go_wp2
             (try simp only [← hl10_3, ← hl10_4])
             go_roundg k4
             case measure => have := HJ3.out; have := HJ23.out; have := HK3.out; have := HK4.out; omega
             case rel => exact ⟨(x10_4), (wrap64 (x47_3 + 1)), (by first | rfl | (simp; done) | (simp [*]; done)), H', ⟨by have := HJ3.out; have := HJ23.out; have := HK3.out; have := HK4.out; omega⟩, ⟨by (try simp only [hl10_3]); (try simp only [hl10_4]); (with_reducible repeat (first | apply r1_ | apply r2_ | apply r3_)); exact HO_10.out⟩, ⟨by (try simp only [hl10_3]); (try simp only [hl10_4]); (with_reducible repeat (first | apply v1_ | apply v2_ | apply v3_)); exact HO_285001.out⟩, ⟨by (try simp only [hl10_3]); (try simp only [hl10_4]); (with_reducible repeat (first | apply v1_ | apply v2_ | apply v3_)); exact HO_290001.out⟩, ⟨by (try simp only [hl10_3]); (try simp only [hl10_4]); (with_reducible repeat (first | refine k1_ ?_ _ | refine k2_ ?_ | refine k3_ ?_ _)); exact BK284.out⟩, ⟨by (try simp only [hl10_3]); (try simp only [hl10_4]); (with_reducible repeat (first | refine k1_ ?_ _ | refine k2_ ?_ | refine k3_ ?_ _)); exact BK289.out⟩, ⟨by repeat (first | (with_reducible first | exact HB.out | apply b1_ | apply b2_ | apply b3_ | refine b4_ ?_ GE284.out | refine b4_ ?_ GE289.out) | exact HB.out)⟩⟩
         ·
          rw [if_neg c58] at H
          have c58b0 : decide (x47_3 < (y318.length : Int)) = false := d3_ c58
          have c58bz : decide (x47_3 < (x10_3.length : Int)) = false := hl10_3 ▸ c58b0
          clear c58
          simp only [Option.some.injEq, Prod.mk.injEq] at H
          obtain ⟨rfl, rfl⟩ := H
          go_wp2
          go_ret2
          exact ⟨_, by first | rfl | (simp [e1_, e2_] <;> rfl) | (simp [*, e1_, e2_] <;> rfl), by (with_reducible repeat (first | apply r1_ | apply r2_ | apply r3_)); exact HO_10.out, by repeat (first | (with_reducible first | exact HB.out | apply b1_ | apply b2_ | apply b3_ | refine b4_ ?_ GE284.out | refine b4_ ?_ GE289.out) | exact HB.out)⟩
      ·
       rw [if_neg c54] at H
       exact absurd H (by simp)
     ·
      rw [if_neg c53] at H
      exact absurd H (by simp)


end Go.Proofs.Ytiiicmfobljnaaa.V
