import Derived.Test.YtiiicmfobljnaaaDoorV2
namespace Go.Proofs.YtiiicmfobljnaaaDoor.V
open Go.RowKit Go.Proofs.YtiiicmfobljnaaaDoorW.PrintWords Go.Proofs.YtiiicmfobljnaaaDoorW.PrintLast Go.Proofs.YtiiicmfobljnaaaDoorW.PrintMore
attribute [local go_sem] max2_int min2_int max_two min_two max_three min_three max_four min_four
set_option linter.unusedVariables false
set_option linter.unusedSimpArgs false

/-! ### spec_ToWords: function 9 -/
mutual
def spec_ToWords.j0 : Nat → Int → Bool → Bool → List Int → Option (List Int × Bool)
 | 0, _, _, _, _ => none
 | k + 1, x1, x7, x283000, x283001 => if x283000 = true then ((spec_Two.f k (wrap64 (64 * x1))).bind fun bt294 => ((spec_WideDiv.f k x283000 x283001 bt294.1 bt294.2).bind fun bt298 => ((spec_Two.f k (wrap64 (64 * x1))).bind fun bt308 => ((spec_WideAdd.f k bt298.2.2.1 bt298.2.2.2 bt308.1 bt308.2).bind fun bt312 => (spec_ToWords.j1 k x1 x7 bt312.1 bt312.2))))) else (spec_ToWords.j1 k x1 x7 x283000 x283001)
def spec_ToWords.j1 : Nat → Int → Bool → Bool → List Int → Option (List Int × Bool)
 | 0, _, _, _, _ => none
 | k + 1, x1, x7, x283000, x283001 => if 0 ≤ x1 then (if (x1 : Int).toNat ≤ 35184372088832 then ((some (List.replicate (x1 : Int).toNat 0 : List Int)).bind fun y316 => (spec_ToWords.l0 k x7 y316 (y316.length : Int) 0 x283000 x283001)) else (none)) else (none)
def spec_ToWords.l0 : Nat → Bool → List Int → Int → Int → Bool → List Int → Option (List Int × Bool)
 | 0, _, _, _, _, _, _ => none
 | k + 1, x7, x10, x46, x47, x283000, x283001 => if x47 < x46 then (spec_ToWords.l1 k x7 x10 x47 0 x46 x47 x283000 x283001) else (some (x10, x7))
def spec_ToWords.l1 : Nat → Bool → List Int → Int → Int → Int → Int → Bool → List Int → Option (List Int × Bool)
 | 0, _, _, _, _, _, _, _, _ => none
 | k + 1, x7, x10, x11, x12, x46, x47, x283000, x283001 => if x12 < 2 then (if (wrap64 ((wrap64 (2 * x11)) + x12)) < (x283001.length : Int) then (if 0 ≤ x11 then (if x11 < (x10.length : Int) then (if 0 ≤ (wrap64 ((wrap64 (2 * x11)) + x12)) then (if 0 ≤ (wrap64 (32 * x12)) then (spec_ToWords.l1 k x7 (x10.set (x11 : Int).toNat (Go.bits .or .u64 (rd x10 x11) (shl .u64 (IntKind.u64.wrap (rd x283001 (wrap64 ((wrap64 (2 * x11)) + x12)))) (wrap64 (32 * x12))))) x11 (wrap64 (x12 + 1)) x46 x47 x283000 x283001) else (none)) else (none)) else (none)) else (none)) else (spec_ToWords.l1 k x7 x10 x11 (wrap64 (x12 + 1)) x46 x47 x283000 x283001)) else (spec_ToWords.l0 k x7 x10 x46 (wrap64 (x47 + 1)) x283000 x283001)
end
def spec_ToWords.f (k : Nat) (a0_0 : Bool) (l0_1 : List Int) (a1 : Int) : Option (List Int × Bool) := (spec_Two.f k (wrap64 ((wrap64 (64 * a1)) - 1))).bind fun bt283 => ((spec_WideCmp.f k a0_0 l0_1 bt283.1 bt283.2).bind fun t288 => (if t288 < 0 then ((spec_Wide_Negated.f k bt283.1 bt283.2).bind fun bt289 => ((spec_WideCmp.f k a0_0 l0_1 bt289.1 bt289.2).bind fun t293 => (spec_ToWords.j0 k a1 (decide (t293 ≥ 0)) a0_0 l0_1))) else (spec_ToWords.j0 k a1 false a0_0 l0_1)))
def spec_ToWords.T2 : Bool × List (List Nat × List Nat) := (true, [([], []), ([], []), ([0, 1], [0, 1]), ([2], [2]), ([3, 2], [3]), ([4], [4]), ([4], [4]), ([6, 4, 4], [4, 6]), ([5, 7, 7, 4], [4, 5, 7]), ([8, 4], [4, 8]), ([4, 9], [4, 9]), ([10, 8, 0, 1, 2, 3, 4, 5, 6, 7, 8, 9, 10], [10])])
def spec_ToWords.B2 : List Nat := [0, 0, 3, 7, 15, 31, 31, 95, 255, 511, 1023, 2047]
theorem spec_ToWords.tab2 : rtab .any (opsOf Tryd.f9 2) = spec_ToWords.T2 := by kernel_rfl
theorem spec_ToWords.bits2 : waitsOk spec_ToWords.T2.2 spec_ToWords.B2 = true := by kernel_rfl
def spec_ToWords.T4 : Bool × List (List Nat × List Nat) := (true, [([], []), ([], []), ([1], [1]), ([2], [2]), ([0, 3, 3], [0, 3]), ([4], [4]), ([5], [5]), ([5], [5]), ([], []), ([], []), ([8, 6, 4, 0, 1, 2, 3, 4, 5, 6, 8, 9], [6, 8]), ([9, 7, 10, 0, 1, 2, 3, 4, 5, 6, 7, 8, 9, 10], [7, 9])])
def spec_ToWords.B4 : List Nat := [0, 0, 2, 6, 15, 31, 63, 63, 0, 0, 895, 2047]
theorem spec_ToWords.tab4 : rtab .any (opsOf Tryd.f9 4) = spec_ToWords.T4 := by kernel_rfl
theorem spec_ToWords.bits4 : waitsOk spec_ToWords.T4.2 spec_ToWords.B4 = true := by kernel_rfl
def spec_ToWords.T14 : Bool × List (List Nat × List Nat) := (true, [([], []), ([], []), ([0, 1], [0, 1]), ([2], [2]), ([], []), ([4], [4]), ([], []), ([6], [6]), ([], []), ([7, 8], [7, 8]), ([5, 9], [5, 9]), ([10], [10]), ([11], [11]), ([], []), ([13], [13]), ([12, 14], [12, 14]), ([3, 15], [3, 15]), ([0, 1, 0, 1, 2, 3, 4, 5, 6, 7, 8, 9, 10, 11, 12, 13, 14, 15, 16], [0, 1]), ([17, 16, 0, 1, 2, 3, 4, 5, 6, 7, 8, 9, 10, 11, 12, 13, 14, 15, 16], [16, 17])])
def spec_ToWords.B14 : List Nat := [0, 0, 3, 7, 0, 16, 0, 64, 0, 448, 1008, 2032, 4080, 0, 8192, 32752, 65535, 131071, 262143]
theorem spec_ToWords.tab14 : rtab .any (opsOf Tryd.f9 14) = spec_ToWords.T14 := by kernel_rfl
theorem spec_ToWords.bits14 : waitsOk spec_ToWords.T14.2 spec_ToWords.B14 = true := by kernel_rfl
set_option maxHeartbeats 8000000 in
set_option maxRecDepth 100000 in
theorem spec_ToWords.calls (k : Nat) (a0_0 : Bool) (P0_1_ : Nat → Prop) (A0_1 : Option Addr) (c0_1 : Nat) (l0_1 : List Int) (a1 : Int) (r1 : List Int) (r2 : Bool) (w : World) (hs0_1 : Kd.V (Kd.int .u32) 40 w w.heap.size (fun k_ => P0_1_ k_) (.slice A0_1 l0_1.length c0_1) l0_1) (h : spec_ToWords.f k a0_0 l0_1 a1 = some (r1, r2)) :
  Calls Tryd.prog 9 #[.agg #[.bool a0_0, .slice A0_1 l0_1.length c0_1], .int .i64 a1] w fun e w' => ∃ v0_ : Value, e = .returned (.tuple #[v0_, .bool r2]) ∧ Kd.R (Kd.int .u64) 35 w' w.heap.size (fun k_ => (w.heap.size ≤ k_)) v0_ r1 ∧ Below w.heap.size w w' := by
 have hu26 := Tryd.underlying26
 have HO0_1 := a0_ (show Kd.V (Kd.int .u32) 40 w w.heap.size (fun k_ => (P0_1_ k_ ∨ w.heap.size ≤ k_)) (.slice A0_1 l0_1.length c0_1) l0_1 from v4_ hs0_1 (fun k_ hk => .inl hk))
 have HB := a0_ (Below.refl w.heap.size w)
 have H : ((spec_Two.f k (wrap64 ((wrap64 (64 * a1)) - 1))).bind fun bt283 => ((spec_WideCmp.f k a0_0 l0_1 bt283.1 bt283.2).bind fun t288 => (if t288 < 0 then ((spec_Wide_Negated.f k bt283.1 bt283.2).bind fun bt289 => ((spec_WideCmp.f k a0_0 l0_1 bt289.1 bt289.2).bind fun t293 => (spec_ToWords.j0 k a1 (decide (t293 ≥ 0)) a0_0 l0_1))) else (spec_ToWords.j0 k a1 false a0_0 l0_1)))) = some (r1, r2) := h
 clear h
 replace H := Option.bind_eq_some_iff.mp H
 obtain ⟨⟨t283, t284⟩, A30, H⟩ := H
 replace H : ((spec_WideCmp.f k a0_0 l0_1 t283 t284).bind fun t288 => (if t288 < 0 then ((spec_Wide_Negated.f k t283 t284).bind fun bt289 => ((spec_WideCmp.f k a0_0 l0_1 bt289.1 bt289.2).bind fun t293 => (spec_ToWords.j0 k a1 (decide (t293 ≥ 0)) a0_0 l0_1))) else (spec_ToWords.j0 k a1 false a0_0 l0_1))) = some (r1, r2) := H
 have A3 := a0_ A30
 clear A30
 have HC4 := a0_ H
 clear H
 go_enter Tryd.func9, Tryd.ntmps9
 go_upto_region 2 with (first | ((with_reducible refine gate_dst (N := 2) rfl ?_); refine box_event ?hg (N := 2) ?hd (cs := #[.bool a0_0, .slice A0_1 l0_1.length c0_1]) (t := 26) ?hr ?_; (case hd => rfl); (case hg => rfl); (case hr => first | (go_simp; done) | (go_simp; rfl)); intro gb282 hg w5 hbox hb; have n0_ := a0_ (Kd.V_below (Kd.V_elderB (by (with_reducible repeat (first | apply v1_ | apply v2_ | apply v3_)); exact HO0_1.out) gb282 (Nat.le_of_eq hg.symm)) hb); have n1_ := a0_ (below_step (by repeat (first | (with_reducible first | exact HB.out | apply b1_ | apply b2_ | apply b3_) | exact HB.out)) hb); have n2_ := a0_ (hbox); have n3_ := a0_ ((by rw [hg]; exact (below_size (by repeat (first | (with_reducible first | exact HB.out | apply b1_ | apply b2_ | apply b3_) | exact HB.out))) : w.heap.size ≤ gb282)); have n4_ := a0_ ((by rw [hg]; exact (below_size (by repeat (first | (with_reducible first | exact HB.out | apply b1_ | apply b2_ | apply b3_) | exact HB.out))) : w.heap.size ≤ gb282)); clear HO0_1; clear HB; have HO0_1 := n0_; have HB := n1_; have BK282 := n2_; have GW282 := n3_; have GE282 := n4_; clear n0_ n1_ n2_ n3_ n4_; clear hb hbox hg) | ((with_reducible refine gate_callee (f := 15) rfl ?_); refine goesL_ (some 16) rfl rfl Tryd.func15 (by kernel_rfl) rfl #[.int .i64 (wrap64 ((wrap64 (64 * a1)) - 1))] rfl (by (try simp only [List.map_toArray, List.map_cons, List.map_nil]); first | done | rfl | (simp only [List.length_drop, List.length_take]; rfl)) ?_; (with_reducible refine (spec_Two.calls k (wrap64 ((wrap64 (64 * a1)) - 1)) t283 t284 _ A3.out).mono ?_); rintro e w6 ⟨v285, rfl, ho0, hb⟩; refine ⟨_, rfl, ?_⟩; have n0_ := a0_ (Kd.V_below (by (with_reducible repeat (first | apply v1_ | apply v2_ | apply v3_)); exact HO0_1.out) hb); have n1_ := a0_ (Kd.V_lower (v4_ (ok' := fun k_ => (P0_1_ k_ ∨ w.heap.size ≤ k_) ∧ k_ ≠ gb282) ho0 (fun k_ hk_ => ⟨(.inr (Nat.le_trans (below_size (by repeat (first | (with_reducible first | exact HB.out | apply b1_ | apply b2_ | apply b3_ | refine b4_ ?_ GE282.out) | exact HB.out))) hk_)), (Kd.freshB (g := gb282) (o := .cells #[.bool a0_0, .slice A0_1 l0_1.length c0_1] 26 (0, 0)) (by (with_reducible repeat (first | refine k1_ ?_ _ | refine k2_ ?_ | refine k3_ ?_ _)); exact BK282.out) k_ hk_)⟩)) (below_size (by repeat (first | (with_reducible first | exact HB.out | apply b1_ | apply b2_ | apply b3_ | refine b4_ ?_ GE282.out) | exact HB.out)))); have n2_ := a0_ (blk_below (g := gb282) (o := .cells #[.bool a0_0, .slice A0_1 l0_1.length c0_1] 26 (0, 0)) (by (with_reducible repeat (first | refine k1_ ?_ _ | refine k2_ ?_ | refine k3_ ?_ _)); exact BK282.out) hb); have n3_ := a0_ (below_step (by repeat (first | (with_reducible first | exact HB.out | apply b1_ | apply b2_ | apply b3_ | refine b4_ ?_ GE282.out) | exact HB.out)) hb); clear HO0_1; clear BK282; clear HB; have HO0_1 := n0_; have HO286 := n1_; have BK282 := n2_; have HB := n3_; clear n0_ n1_ n2_ n3_; (try clear hb); (try clear hb2); (try clear hk); (try clear hi); (try clear ho0)) | ((with_reducible refine gate_dst (N := 6) rfl ?_); refine box_event ?hg (N := 6) ?hd (cs := #[.bool false, .slice none 0 0]) (t := 26) ?hr ?_; (case hd => rfl); (case hg => rfl); (case hr => first | (go_simp; done) | (go_simp; rfl)); intro gb287 hg w7 hbox hb; have n0_ := a0_ (Kd.V_below (Kd.V_elderB (by (with_reducible repeat (first | apply v1_ | apply v2_ | apply v3_)); exact HO0_1.out) gb287 (Nat.le_of_eq hg.symm)) hb); have n1_ := a0_ (Kd.V_below (Kd.V_elderB (by (with_reducible repeat (first | apply v1_ | apply v2_ | apply v3_)); exact HO286.out) gb287 (Nat.le_of_eq hg.symm)) hb); have n2_ := a0_ (blk_below (g := gb282) (o := .cells #[.bool a0_0, .slice A0_1 l0_1.length c0_1] 26 (0, 0)) (by (with_reducible repeat (first | refine k1_ ?_ _ | refine k2_ ?_ | refine k3_ ?_ _)); exact BK282.out) hb); have n3_ := a0_ (below_step (by repeat (first | (with_reducible first | exact HB.out | apply b1_ | apply b2_ | apply b3_ | refine b4_ ?_ GE282.out) | exact HB.out)) hb); have n4_ := a0_ (hbox); have n5_ := a0_ ((by rw [hg]; exact (below_size (by repeat (first | (with_reducible first | exact HB.out | apply b1_ | apply b2_ | apply b3_ | refine b4_ ?_ GE282.out) | exact HB.out))) : w.heap.size ≤ gb287)); have n6_ := a0_ ((by rw [hg]; exact (below_size (by repeat (first | (with_reducible first | exact HB.out | apply b1_ | apply b2_ | apply b3_ | refine b4_ ?_ GE282.out) | exact HB.out))) : w.heap.size ≤ gb287)); have n7_ := a0_ ((by rw [hg]; exact Nat.ne_of_lt (blk_lt (g := gb282) (o := .cells #[.bool a0_0, .slice A0_1 l0_1.length c0_1] 26 (0, 0)) (by (with_reducible repeat (first | refine k1_ ?_ _ | refine k2_ ?_ | refine k3_ ?_ _)); exact BK282.out)) : gb282 ≠ gb287)); have n8_ := a0_ ((by rw [hg]; exact Nat.ne_of_gt (blk_lt (g := gb282) (o := .cells #[.bool a0_0, .slice A0_1 l0_1.length c0_1] 26 (0, 0)) (by (with_reducible repeat (first | refine k1_ ?_ _ | refine k2_ ?_ | refine k3_ ?_ _)); exact BK282.out)) : gb287 ≠ gb282)); clear HO0_1; clear HO286; clear BK282; clear HB; have HO0_1 := n0_; have HO286 := n1_; have BK282 := n2_; have HB := n3_; have BK287 := n4_; have GW287 := n5_; have GE287 := n6_; have NB282_287 := n7_; have NB287_282 := n8_; clear n0_ n1_ n2_ n3_ n4_ n5_ n6_ n7_ n8_; clear hb hbox hg; have hnb8 := NB287_282.out; have hnc8 := NB282_287.out; have hcz9_0 : w7.cell? ⟨gb287, 0, none⟩ = some (.bool false) := (blk_cell BK287.out 0).trans rfl; have hcz9_1 : w7.cell? ⟨gb287, 1, none⟩ = some (.slice none 0 0) := (blk_cell BK287.out 1).trans rfl; have hfz9_0 := blk_frozen BK287.out 0; have hfz9_1 := blk_frozen BK287.out 1; obtain ⟨Ao10, co10, eo10⟩ := Kd.V_slice HO286.out; subst eo10))
 (try simp only [Act.put, s1_, s2_, s3_])
 go_cut [7] (fun v7 wc => ∃ (kq : Nat) (x7_3 : Bool), v7 = .bool x7_3 ∧ Aside0 (spec_ToWords.j0 kq a1 x7_3 a0_0 l0_1 = some (r1, r2)) ∧ Aside0 (kq ≤ k) ∧ Aside0 (Kd.V (Kd.int .u32) 40 wc w.heap.size (fun k_ => (P0_1_ k_ ∨ w.heap.size ≤ k_) ∧ k_ ≠ gb282 ∧ k_ ≠ gb287) (.slice A0_1 l0_1.length c0_1) l0_1) ∧ Aside0 (Kd.V (Kd.int .u32) 40 wc w.heap.size (fun k_ => (P0_1_ k_ ∨ w.heap.size ≤ k_) ∧ k_ ≠ gb282 ∧ k_ ≠ gb287) (.slice Ao10 t284.length co10) t284) ∧ Aside0 (wc.heap[gb282]? = some (.cells #[.bool a0_0, (.slice A0_1 l0_1.length c0_1)] 26 (0, 0))) ∧ Aside0 (wc.heap[gb287]? = some (.cells #[.bool t283, (.slice Ao10 t284.length co10)] 26 (0, 0))) ∧ Aside0 (Below w.heap.size w wc))
 case first =>
  have H := HC4.out
  clear HC4
  replace H := Option.bind_eq_some_iff.mp H
  obtain ⟨t288, A110, H⟩ := H
  replace H : (if t288 < 0 then ((spec_Wide_Negated.f k t283 t284).bind fun bt289 => ((spec_WideCmp.f k a0_0 l0_1 bt289.1 bt289.2).bind fun t293 => (spec_ToWords.j0 k a1 (decide (t293 ≥ 0)) a0_0 l0_1))) else (spec_ToWords.j0 k a1 false a0_0 l0_1)) = some (r1, r2) := H
  have A11 := a0_ A110
  clear A110
  by_cases c12 : t288 < 0
  ·
   rw [if_pos c12] at H
   have c12b0 : decide (t288 < 0) = true := d2_ c12
   clear c12
   (first | rw [c12b0] | (simp only [i64_w, i32_w]; rw [c12b0]) | skip)
   replace H := Option.bind_eq_some_iff.mp H
   obtain ⟨⟨t289, t290⟩, A130, H⟩ := H
   replace H : ((spec_WideCmp.f k a0_0 l0_1 t289 t290).bind fun t293 => (spec_ToWords.j0 k a1 (decide (t293 ≥ 0)) a0_0 l0_1)) = some (r1, r2) := H
   have A13 := a0_ A130
   clear A130
   replace H := Option.bind_eq_some_iff.mp H
   obtain ⟨t293, A140, H⟩ := H
   replace H : (spec_ToWords.j0 k a1 (decide (t293 ≥ 0)) a0_0 l0_1) = some (r1, r2) := H
   have A14 := a0_ A140
   clear A140
   have H' := a0_ H
   clear H
   try go_wp2
   have n0_ : Aside0 (Kd.V (Kd.int .u32) 40 ((w7.setCell ⟨gb287, 0, none⟩ (.bool t283)).setCell ⟨gb287, 1, none⟩ (.slice Ao10 t284.length co10)) w.heap.size (fun k_ => (P0_1_ k_ ∨ w.heap.size ≤ k_) ∧ k_ ≠ gb282 ∧ k_ ≠ gb287) (.slice A0_1 l0_1.length c0_1) l0_1) := ⟨by (with_reducible repeat (first | apply v1_ | apply v2_ | apply v3_)); exact v4_ (v5_ (p := ⟨gb287, 1, none⟩) (v5_ (p := ⟨gb287, 0, none⟩) (v4_ HO0_1.out (fun k_ hk => (⟨hk, hk.2⟩ : _ ∧ k_ ≠ gb287))) (fun _ hk => hk.2) (.bool t283)) (fun _ hk => hk.2) (.slice Ao10 t284.length co10)) (fun _ hk => ⟨hk.1.1.1, ⟨hk.1.1.2, hk.1.2⟩⟩)⟩
   have n1_ : Aside0 (Kd.V (Kd.int .u32) 40 ((w7.setCell ⟨gb287, 0, none⟩ (.bool t283)).setCell ⟨gb287, 1, none⟩ (.slice Ao10 t284.length co10)) w.heap.size (fun k_ => (P0_1_ k_ ∨ w.heap.size ≤ k_) ∧ k_ ≠ gb282 ∧ k_ ≠ gb287) (.slice Ao10 t284.length co10) t284) := ⟨by (with_reducible repeat (first | apply v1_ | apply v2_ | apply v3_)); exact v4_ (v5_ (p := ⟨gb287, 1, none⟩) (v5_ (p := ⟨gb287, 0, none⟩) (v4_ HO286.out (fun k_ hk => (⟨hk, hk.2⟩ : _ ∧ k_ ≠ gb287))) (fun _ hk => hk.2) (.bool t283)) (fun _ hk => hk.2) (.slice Ao10 t284.length co10)) (fun _ hk => ⟨hk.1.1.1, ⟨hk.1.1.2, hk.1.2⟩⟩)⟩
   have n2_ : Aside0 (((w7.setCell ⟨gb287, 0, none⟩ (.bool t283)).setCell ⟨gb287, 1, none⟩ (.slice Ao10 t284.length co10)).heap[gb282]? = some (.cells #[.bool a0_0, .slice A0_1 l0_1.length c0_1] 26 (0, 0))) := ⟨by (with_reducible repeat (first | refine k1_ ?_ _ | refine k2_ ?_ | refine k3_ ?_ _)); refine blk_far ?_ NB282_287.out _; (with_reducible repeat (first | refine k1_ ?_ _ | refine k2_ ?_ | refine k3_ ?_ _)); refine blk_far ?_ NB282_287.out _; (with_reducible repeat (first | refine k1_ ?_ _ | refine k2_ ?_ | refine k3_ ?_ _)); exact BK282.out⟩
   have n3_ : Aside0 (((w7.setCell ⟨gb287, 0, none⟩ (.bool t283)).setCell ⟨gb287, 1, none⟩ (.slice Ao10 t284.length co10)).heap[gb287]? = some (.cells #[.bool t283, .slice Ao10 t284.length co10] 26 (0, 0))) := ⟨by (with_reducible repeat (first | refine k1_ ?_ _ | refine k2_ ?_ | refine k3_ ?_ _)); refine blk_put (cs := #[.bool t283, .slice none 0 0]) ?_ 1 _ rfl; (with_reducible repeat (first | refine k1_ ?_ _ | refine k2_ ?_ | refine k3_ ?_ _)); refine blk_put (cs := #[.bool false, .slice none 0 0]) ?_ 0 _ rfl; (with_reducible repeat (first | refine k1_ ?_ _ | refine k2_ ?_ | refine k3_ ?_ _)); exact BK287.out⟩
   have n4_ : Aside0 (Below w.heap.size w ((w7.setCell ⟨gb287, 0, none⟩ (.bool t283)).setCell ⟨gb287, 1, none⟩ (.slice Ao10 t284.length co10))) := ⟨by repeat (first | (with_reducible first | exact HB.out | apply b1_ | apply b2_ | apply b3_ | refine b4_ ?_ GE282.out | refine b4_ ?_ GE287.out) | exact HB.out)⟩
   (try clear HO0_1)
   (try clear HO286)
   (try clear BK282)
   (try clear BK287)
   (try clear HB)
   generalize ((w7.setCell ⟨gb287, 0, none⟩ (.bool t283)).setCell ⟨gb287, 1, none⟩ (.slice Ao10 t284.length co10)) = w15 at n0_ n1_ n2_ n3_ n4_ ⊢
   have HO0_1 := n0_
   have HO286 := n1_
   have BK282 := n2_
   have BK287 := n3_
   have HB := n4_
   clear n0_ n1_ n2_ n3_ n4_
   have n0_ := a0_ (v3_ HO0_1.out)
   have n1_ := a0_ (v3_ HO286.out)
   have n2_ := a0_ (k2_ BK282.out)
   have n3_ := a0_ (k2_ BK287.out)
   have n4_ := a0_ (b3_ HB.out)
   clear HO0_1
   clear HO286
   clear BK282
   clear BK287
   clear HB
   have HO0_1 := n0_
   have HO286 := n1_
   have BK282 := n2_
   have BK287 := n3_
   have HB := n4_
   clear n0_ n1_ n2_ n3_ n4_
   refine start_ (n := 12) (S := fun w' => w'.cell? ⟨gb282, 0, none⟩ = some (.bool a0_0) ∧ w'.cell? ⟨gb282, 1, none⟩ = some (.slice A0_1 l0_1.length c0_1) ∧ w'.cell? ⟨gb287, 0, none⟩ = some (.bool t283) ∧ w'.cell? ⟨gb287, 1, none⟩ = some (.slice Ao10 t284.length co10)) (ds := []) #[false, false, false, false, false, false, false, false, false, false, false, false] (by kernel_rfl) rfl rfl ⟨(blk_cell BK282.out 0).trans rfl, (blk_cell BK282.out 1).trans rfl, (blk_cell BK287.out 0).trans rfl, (blk_cell BK287.out 1).trans rfl⟩ (fun hHeld => ?_); refine with_tabW spec_ToWords.tab2 spec_ToWords.bits2 (fun HT_ HW_ => ?_)
   generalize w15.drew = w16 at HO0_1 HO286 BK282 BK287 HB hHeld ⊢
   refine take_ (i := 0) (N := some 17) (v := ?_) (a' := ?_) #[true, false, false, false, false, false, false, false, false, false, false, false] rfl rfl (take_ofW HT_.out HW_.out (by kernel_rfl)) (fun _ _ _ h => h) (Or.inl ⟨by rfl, ?_⟩) hHeld ?_ ?_
   rotate_left
   ·
    rintro w' ⟨s0, s1, s2, s3⟩
    go_simp
    with_reducible rfl
   rotate_left
   ·
    simp only [Act.put, s1_, s2_, s3_, i64_w, i32_w]
    rfl
   refine take_ (i := 1) (N := some 18) (v := ?_) (a' := ?_) #[true, true, false, false, false, false, false, false, false, false, false, false] rfl rfl (take_ofW HT_.out HW_.out (by kernel_rfl)) (fun _ _ _ h => h) (Or.inl ⟨by rfl, ?_⟩) hHeld ?_ ?_
   rotate_left
   ·
    rintro w' ⟨s0, s1, s2, s3⟩
    go_simp
    with_reducible rfl
   rotate_left
   ·
    simp only [Act.put, s1_, s2_, s3_, i64_w, i32_w]
    rfl
   refine one_ (i := 2) (N := some 19) #[true, true, true, false, false, false, false, false, false, false, false, false] rfl rfl (one_of HT_.out (by kernel_rfl)) (by decide) (fun K hK => ?_)
   refine goes_ Tryd.func16 (by kernel_rfl) rfl #[.agg #[.bool a0_0, .slice A0_1 l0_1.length c0_1], .agg #[.bool t283, .slice Ao10 t284.length co10]] (by rfl) rfl rfl (by (try simp only [List.map_toArray, List.map_cons, List.map_nil]); first | done | rfl | (simp only [List.length_drop, List.length_take]; rfl)) ?_
   with_reducible refine (spec_WideCmp.calls k a0_0 _ _ l0_1 t283 _ _ t284 t288 _ ?side1 ?side2 ?side3 ?side4 A11.out).mono ?_
   (case side1 => repeat (first | exact (Kd.V_reads' HO0_1.out).2.2 | (with_reducible refine Kd.C_alloc ?_ _) | (with_reducible refine Kd.C_drewN ?_ _) | (with_reducible refine Kd.C_drew ?_)))
   (case side2 => exact (Kd.V_reads' HO0_1.out).2.1)
   (case side3 => repeat (first | exact (Kd.V_reads' HO286.out).2.2 | (with_reducible refine Kd.C_alloc ?_ _) | (with_reducible refine Kd.C_drewN ?_ _) | (with_reducible refine Kd.C_drew ?_)))
   (case side4 => exact (Kd.V_reads' HO286.out).2.1)
   rintro e w17 ⟨rfl, hb⟩
   refine ⟨_, rfl, ?_⟩
   have n0_ := a0_ (Kd.V_below (by (with_reducible repeat (first | apply v1_ | apply v2_ | apply v3_)); exact HO0_1.out) hb)
   have n1_ := a0_ (Kd.V_below (by (with_reducible repeat (first | apply v1_ | apply v2_ | apply v3_)); exact HO286.out) hb)
   have n2_ := a0_ (blk_below (g := gb282) (o := .cells #[.bool a0_0, .slice A0_1 l0_1.length c0_1] 26 (0, 0)) (by (with_reducible repeat (first | refine k1_ ?_ _ | refine k2_ ?_ | refine k3_ ?_ _)); exact BK282.out) hb)
   have n3_ := a0_ (blk_below (g := gb287) (o := .cells #[.bool t283, .slice Ao10 t284.length co10] 26 (0, 0)) (by (with_reducible repeat (first | refine k1_ ?_ _ | refine k2_ ?_ | refine k3_ ?_ _)); exact BK287.out) hb)
   have n4_ := a0_ (below_step (by repeat (first | (with_reducible first | exact HB.out | apply b1_ | apply b2_ | apply b3_ | refine b4_ ?_ GE282.out | refine b4_ ?_ GE287.out) | exact HB.out)) hb)
   clear HO0_1
   clear HO286
   clear BK282
   clear BK287
   clear HB
   have HO0_1 := n0_
   have HO286 := n1_
   have BK282 := n2_
   have BK287 := n3_
   have HB := n4_
   clear n0_ n1_ n2_ n3_ n4_
   (try clear hb)
   (try clear hb2)
   (try clear hk)
   (try clear hi)
   refine hK.out _ _ ⟨(blk_cell BK282.out 0).trans rfl, (blk_cell BK282.out 1).trans rfl, (blk_cell BK287.out 0).trans rfl, (blk_cell BK287.out 1).trans rfl⟩ (fun hHeld => ?_)
   clear hK K
   refine norm_ (a' := ?_) ?_ ?_
   rotate_left
   ·
    show Act.put _ (some 19) _ = _
    simp only [Act.put, s1_, s2_, s3_, i64_w, i32_w]
    rfl
   refine pure_ (i := 3) (N := some 20) (v := ?_) (a' := ?_) #[true, true, true, true, false, false, false, false, false, false, false, false] rfl rfl (any_of HT_.out (by kernel_rfl)) (fun _ _ _ h => h) (Or.inl ⟨by rfl, ?_⟩) ?_ ?_
   rotate_left
   ·
    intro w'
    go_simp
    with_reducible rfl
   rotate_left
   ·
    simp only [Act.put, s1_, s2_, s3_, i64_w, i32_w]
    rfl
   refine pure_ (i := 4) (N := some 21) (v := ?_) (a' := ?_) #[true, true, true, true, true, false, false, false, false, false, false, false] rfl rfl (any_of HT_.out (by kernel_rfl)) (fun _ _ _ h => h) (Or.inl ⟨by rfl, ?_⟩) ?_ ?_
   rotate_left
   ·
    intro w'
    go_simp
    with_reducible rfl
   rotate_left
   ·
    simp only [Act.put, s1_, s2_, s3_, i64_w, i32_w]
    rfl
   refine take_ (i := 5) (N := some 22) (v := ?_) (a' := ?_) #[true, true, true, true, true, true, false, false, false, false, false, false] rfl rfl (take_ofW HT_.out HW_.out (by kernel_rfl)) (fun _ _ _ h => h) (Or.inl ⟨by rfl, ?_⟩) hHeld ?_ ?_
   rotate_left
   ·
    rintro w' ⟨s0, s1, s2, s3⟩
    go_simp
    with_reducible rfl
   rotate_left
   ·
    simp only [Act.put, s1_, s2_, s3_, i64_w, i32_w]
    rfl
   refine take_ (i := 6) (N := some 23) (v := ?_) (a' := ?_) #[true, true, true, true, true, true, true, false, false, false, false, false] rfl rfl (take_ofW HT_.out HW_.out (by kernel_rfl)) (fun _ _ _ h => h) (Or.inl ⟨by rfl, ?_⟩) hHeld ?_ ?_
   rotate_left
   ·
    rintro w' ⟨s0, s1, s2, s3⟩
    go_simp
    with_reducible rfl
   rotate_left
   ·
    simp only [Act.put, s1_, s2_, s3_, i64_w, i32_w]
    rfl
   refine one_ (i := 7) (N := some 24) #[true, true, true, true, true, true, true, true, false, false, false, false] rfl rfl (one_of HT_.out (by kernel_rfl)) (by decide) (fun K hK => ?_)
   refine goes_ Tryd.func17 (by kernel_rfl) rfl #[.agg #[.bool t283, .slice Ao10 t284.length co10]] (by rfl) rfl rfl (by (try simp only [List.map_toArray, List.map_cons, List.map_nil]); first | done | rfl | (simp only [List.length_drop, List.length_take]; rfl)) ?_
   with_reducible refine (spec_Wide_Negated.calls k t283 (fun k_ => ((P0_1_ k_ ∨ w.heap.size ≤ k_) ∧ (k_ ≠ gb282 ∧ k_ ≠ gb287))) _ _ t284 t289 t290 _ ?side1 A13.out).mono ?_
   (case side1 => exact HO286.out)
   rintro e w18 ⟨v291, rfl, ho0, hb⟩
   refine ⟨_, rfl, ?_⟩
   have n0_ := a0_ (Kd.V_below (by (with_reducible repeat (first | apply v1_ | apply v2_ | apply v3_)); exact HO0_1.out) hb)
   have n1_ := a0_ (Kd.V_below (by (with_reducible repeat (first | apply v1_ | apply v2_ | apply v3_)); exact HO286.out) hb)
   have n2_ := a0_ (Kd.V_lower (v4_ (ok' := fun k_ => (P0_1_ k_ ∨ w.heap.size ≤ k_) ∧ k_ ≠ gb282 ∧ k_ ≠ gb287) ho0 (fun k_ hk_ => ⟨Or.elim hk_ (fun hs_ => hs_.1) (fun hn_ => (.inr (Nat.le_trans (below_size (by repeat (first | (with_reducible first | exact HB.out | apply b1_ | apply b2_ | apply b3_ | refine b4_ ?_ GE282.out | refine b4_ ?_ GE287.out) | exact HB.out))) hn_))), Or.elim hk_ (fun hs_ => hs_.2.1) (fun hn_ => (Kd.freshB (g := gb282) (o := .cells #[.bool a0_0, .slice A0_1 l0_1.length c0_1] 26 (0, 0)) (by (with_reducible repeat (first | refine k1_ ?_ _ | refine k2_ ?_ | refine k3_ ?_ _)); exact BK282.out) k_ hn_)), Or.elim hk_ (fun hs_ => hs_.2.2) (fun hn_ => (Kd.freshB (g := gb287) (o := .cells #[.bool t283, .slice Ao10 t284.length co10] 26 (0, 0)) (by (with_reducible repeat (first | refine k1_ ?_ _ | refine k2_ ?_ | refine k3_ ?_ _)); exact BK287.out) k_ hn_))⟩)) (below_size (by repeat (first | (with_reducible first | exact HB.out | apply b1_ | apply b2_ | apply b3_ | refine b4_ ?_ GE282.out | refine b4_ ?_ GE287.out) | exact HB.out))))
   have n3_ := a0_ (blk_below (g := gb282) (o := .cells #[.bool a0_0, .slice A0_1 l0_1.length c0_1] 26 (0, 0)) (by (with_reducible repeat (first | refine k1_ ?_ _ | refine k2_ ?_ | refine k3_ ?_ _)); exact BK282.out) hb)
   have n4_ := a0_ (blk_below (g := gb287) (o := .cells #[.bool t283, .slice Ao10 t284.length co10] 26 (0, 0)) (by (with_reducible repeat (first | refine k1_ ?_ _ | refine k2_ ?_ | refine k3_ ?_ _)); exact BK287.out) hb)
   have n5_ := a0_ (below_step (by repeat (first | (with_reducible first | exact HB.out | apply b1_ | apply b2_ | apply b3_ | refine b4_ ?_ GE282.out | refine b4_ ?_ GE287.out) | exact HB.out)) hb)
   clear HO0_1
   clear HO286
   clear BK282
   clear BK287
   clear HB
   have HO0_1 := n0_
   have HO286 := n1_
   have HO292 := n2_
   have BK282 := n3_
   have BK287 := n4_
   have HB := n5_
   clear n0_ n1_ n2_ n3_ n4_ n5_
   (try clear hb)
   (try clear hb2)
   (try clear hk)
   (try clear hi)
   (try clear ho0)
   obtain ⟨Ao19, co19, eo19⟩ := Kd.V_slice HO292.out
   (first | subst eo19 | (injection eo19 with f1_ f2_ f3_; have f4_ := f1_.symm; have f5_ := f3_.symm; clear f1_ f2_ f3_; subst f4_; subst f5_))
   refine hK.out _ _ ⟨(blk_cell BK282.out 0).trans rfl, (blk_cell BK282.out 1).trans rfl, (blk_cell BK287.out 0).trans rfl, (blk_cell BK287.out 1).trans rfl⟩ (fun hHeld => ?_)
   clear hK K
   refine norm_ (a' := ?_) ?_ ?_
   rotate_left
   ·
    show Act.put _ (some 24) _ = _
    simp only [Act.put, s1_, s2_, s3_, i64_w, i32_w]
    rfl
   refine one_ (i := 8) (N := some 25) #[true, true, true, true, true, true, true, true, true, false, false, false] rfl rfl (one_of HT_.out (by kernel_rfl)) (by decide) (fun K hK => ?_)
   refine goes_ Tryd.func16 (by kernel_rfl) rfl #[.agg #[.bool a0_0, .slice A0_1 l0_1.length c0_1], .agg #[.bool t289, .slice Ao19 t290.length co19]] (by rfl) rfl rfl (by (try simp only [List.map_toArray, List.map_cons, List.map_nil]); first | done | rfl | (simp only [List.length_drop, List.length_take]; rfl)) ?_
   with_reducible refine (spec_WideCmp.calls k a0_0 _ _ l0_1 t289 _ _ t290 t293 _ ?side1 ?side2 ?side3 ?side4 A14.out).mono ?_
   (case side1 => repeat (first | exact (Kd.V_reads' HO0_1.out).2.2 | (with_reducible refine Kd.C_alloc ?_ _) | (with_reducible refine Kd.C_drewN ?_ _) | (with_reducible refine Kd.C_drew ?_)))
   (case side2 => exact (Kd.V_reads' HO0_1.out).2.1)
   (case side3 => repeat (first | exact (Kd.V_reads' HO292.out).2.2 | (with_reducible refine Kd.C_alloc ?_ _) | (with_reducible refine Kd.C_drewN ?_ _) | (with_reducible refine Kd.C_drew ?_)))
   (case side4 => exact (Kd.V_reads' HO292.out).2.1)
   rintro e w20 ⟨rfl, hb⟩
   refine ⟨_, rfl, ?_⟩
   have n0_ := a0_ (Kd.V_below (by (with_reducible repeat (first | apply v1_ | apply v2_ | apply v3_)); exact HO0_1.out) hb)
   have n1_ := a0_ (Kd.V_below (by (with_reducible repeat (first | apply v1_ | apply v2_ | apply v3_)); exact HO286.out) hb)
   have n2_ := a0_ (Kd.V_below (by (with_reducible repeat (first | apply v1_ | apply v2_ | apply v3_)); exact HO292.out) hb)
   have n3_ := a0_ (blk_below (g := gb282) (o := .cells #[.bool a0_0, .slice A0_1 l0_1.length c0_1] 26 (0, 0)) (by (with_reducible repeat (first | refine k1_ ?_ _ | refine k2_ ?_ | refine k3_ ?_ _)); exact BK282.out) hb)
   have n4_ := a0_ (blk_below (g := gb287) (o := .cells #[.bool t283, .slice Ao10 t284.length co10] 26 (0, 0)) (by (with_reducible repeat (first | refine k1_ ?_ _ | refine k2_ ?_ | refine k3_ ?_ _)); exact BK287.out) hb)
   have n5_ := a0_ (below_step (by repeat (first | (with_reducible first | exact HB.out | apply b1_ | apply b2_ | apply b3_ | refine b4_ ?_ GE282.out | refine b4_ ?_ GE287.out) | exact HB.out)) hb)
   clear HO0_1
   clear HO286
   clear HO292
   clear BK282
   clear BK287
   clear HB
   have HO0_1 := n0_
   have HO286 := n1_
   have HO292 := n2_
   have BK282 := n3_
   have BK287 := n4_
   have HB := n5_
   clear n0_ n1_ n2_ n3_ n4_ n5_
   (try clear hb)
   (try clear hb2)
   (try clear hk)
   (try clear hi)
   refine hK.out _ _ ⟨(blk_cell BK282.out 0).trans rfl, (blk_cell BK282.out 1).trans rfl, (blk_cell BK287.out 0).trans rfl, (blk_cell BK287.out 1).trans rfl⟩ (fun hHeld => ?_)
   clear hK K
   refine norm_ (a' := ?_) ?_ ?_
   rotate_left
   ·
    show Act.put _ (some 25) _ = _
    simp only [Act.put, s1_, s2_, s3_, i64_w, i32_w]
    rfl
   refine pure_ (i := 9) (N := some 26) (v := ?_) (a' := ?_) #[true, true, true, true, true, true, true, true, true, true, false, false] rfl rfl (any_of HT_.out (by kernel_rfl)) (fun _ _ _ h => h) (Or.inl ⟨by rfl, ?_⟩) ?_ ?_
   rotate_left
   ·
    intro w'
    go_simp
    with_reducible rfl
   rotate_left
   ·
    simp only [Act.put, s1_, s2_, s3_, i64_w, i32_w]
    rfl
   refine pure_ (i := 10) (N := some 27) (v := ?_) (a' := ?_) #[true, true, true, true, true, true, true, true, true, true, true, false] rfl rfl (any_of HT_.out (by kernel_rfl)) (fun _ _ _ h => h) (Or.inl ⟨by rfl, ?_⟩) ?_ ?_
   rotate_left
   ·
    intro w'
    go_simp
    with_reducible rfl
   rotate_left
   ·
    simp only [Act.put, s1_, s2_, s3_, i64_w, i32_w]
    rfl
   refine pure_ (i := 11) (N := some 7) (v := ?_) (a' := ?_) #[true, true, true, true, true, true, true, true, true, true, true, true] rfl rfl (any_of HT_.out (by kernel_rfl)) (fun _ _ _ h => h) (Or.inl ⟨by rfl, ?_⟩) ?_ ?_
   rotate_left
   ·
    intro w'
    go_simp
    with_reducible rfl
   rotate_left
   ·
    simp only [Act.put, s1_, s2_, s3_, i64_w, i32_w]
    rfl
   refine done_ (done_of HT_.out (by kernel_rfl)) ?_
   try go_wp2
   go_meet
   case rel => exact ⟨_, (decide (t293 ≥ 0)), (by first | rfl | (simp; done) | (simp [*]; done)), H', ⟨by first | omega | exact Nat.le_refl _⟩, ⟨by (with_reducible repeat (first | apply v1_ | apply v2_ | apply v3_)); exact HO0_1.out⟩, ⟨by (with_reducible repeat (first | apply v1_ | apply v2_ | apply v3_)); exact HO286.out⟩, ⟨by (with_reducible repeat (first | refine k1_ ?_ _ | refine k2_ ?_ | refine k3_ ?_ _)); exact BK282.out⟩, ⟨by (with_reducible repeat (first | refine k1_ ?_ _ | refine k2_ ?_ | refine k3_ ?_ _)); exact BK287.out⟩, ⟨by repeat (first | (with_reducible first | exact HB.out | apply b1_ | apply b2_ | apply b3_ | refine b4_ ?_ GE282.out | refine b4_ ?_ GE287.out) | exact HB.out)⟩⟩
  ·
   rw [if_neg c12] at H
   have c12b0 : decide (t288 < 0) = false := d3_ c12
   clear c12
   (first | rw [c12b0] | (simp only [i64_w, i32_w]; rw [c12b0]) | skip)
   have H' := a0_ H
   clear H
   try go_wp2
   have n0_ : Aside0 (Kd.V (Kd.int .u32) 40 ((w7.setCell ⟨gb287, 0, none⟩ (.bool t283)).setCell ⟨gb287, 1, none⟩ (.slice Ao10 t284.length co10)) w.heap.size (fun k_ => (P0_1_ k_ ∨ w.heap.size ≤ k_) ∧ k_ ≠ gb282 ∧ k_ ≠ gb287) (.slice A0_1 l0_1.length c0_1) l0_1) := ⟨by (with_reducible repeat (first | apply v1_ | apply v2_ | apply v3_)); exact v4_ (v5_ (p := ⟨gb287, 1, none⟩) (v5_ (p := ⟨gb287, 0, none⟩) (v4_ HO0_1.out (fun k_ hk => (⟨hk, hk.2⟩ : _ ∧ k_ ≠ gb287))) (fun _ hk => hk.2) (.bool t283)) (fun _ hk => hk.2) (.slice Ao10 t284.length co10)) (fun _ hk => ⟨hk.1.1.1, ⟨hk.1.1.2, hk.1.2⟩⟩)⟩
   have n1_ : Aside0 (Kd.V (Kd.int .u32) 40 ((w7.setCell ⟨gb287, 0, none⟩ (.bool t283)).setCell ⟨gb287, 1, none⟩ (.slice Ao10 t284.length co10)) w.heap.size (fun k_ => (P0_1_ k_ ∨ w.heap.size ≤ k_) ∧ k_ ≠ gb282 ∧ k_ ≠ gb287) (.slice Ao10 t284.length co10) t284) := ⟨by (with_reducible repeat (first | apply v1_ | apply v2_ | apply v3_)); exact v4_ (v5_ (p := ⟨gb287, 1, none⟩) (v5_ (p := ⟨gb287, 0, none⟩) (v4_ HO286.out (fun k_ hk => (⟨hk, hk.2⟩ : _ ∧ k_ ≠ gb287))) (fun _ hk => hk.2) (.bool t283)) (fun _ hk => hk.2) (.slice Ao10 t284.length co10)) (fun _ hk => ⟨hk.1.1.1, ⟨hk.1.1.2, hk.1.2⟩⟩)⟩
   have n2_ : Aside0 (((w7.setCell ⟨gb287, 0, none⟩ (.bool t283)).setCell ⟨gb287, 1, none⟩ (.slice Ao10 t284.length co10)).heap[gb282]? = some (.cells #[.bool a0_0, .slice A0_1 l0_1.length c0_1] 26 (0, 0))) := ⟨by (with_reducible repeat (first | refine k1_ ?_ _ | refine k2_ ?_ | refine k3_ ?_ _)); refine blk_far ?_ NB282_287.out _; (with_reducible repeat (first | refine k1_ ?_ _ | refine k2_ ?_ | refine k3_ ?_ _)); refine blk_far ?_ NB282_287.out _; (with_reducible repeat (first | refine k1_ ?_ _ | refine k2_ ?_ | refine k3_ ?_ _)); exact BK282.out⟩
   have n3_ : Aside0 (((w7.setCell ⟨gb287, 0, none⟩ (.bool t283)).setCell ⟨gb287, 1, none⟩ (.slice Ao10 t284.length co10)).heap[gb287]? = some (.cells #[.bool t283, .slice Ao10 t284.length co10] 26 (0, 0))) := ⟨by (with_reducible repeat (first | refine k1_ ?_ _ | refine k2_ ?_ | refine k3_ ?_ _)); refine blk_put (cs := #[.bool t283, .slice none 0 0]) ?_ 1 _ rfl; (with_reducible repeat (first | refine k1_ ?_ _ | refine k2_ ?_ | refine k3_ ?_ _)); refine blk_put (cs := #[.bool false, .slice none 0 0]) ?_ 0 _ rfl; (with_reducible repeat (first | refine k1_ ?_ _ | refine k2_ ?_ | refine k3_ ?_ _)); exact BK287.out⟩
   have n4_ : Aside0 (Below w.heap.size w ((w7.setCell ⟨gb287, 0, none⟩ (.bool t283)).setCell ⟨gb287, 1, none⟩ (.slice Ao10 t284.length co10))) := ⟨by repeat (first | (with_reducible first | exact HB.out | apply b1_ | apply b2_ | apply b3_ | refine b4_ ?_ GE282.out | refine b4_ ?_ GE287.out) | exact HB.out)⟩
   (try clear HO0_1)
   (try clear HO286)
   (try clear BK282)
   (try clear BK287)
   (try clear HB)
   generalize ((w7.setCell ⟨gb287, 0, none⟩ (.bool t283)).setCell ⟨gb287, 1, none⟩ (.slice Ao10 t284.length co10)) = w21 at n0_ n1_ n2_ n3_ n4_ ⊢
   have HO0_1 := n0_
   have HO286 := n1_
   have BK282 := n2_
   have BK287 := n3_
   have HB := n4_
   clear n0_ n1_ n2_ n3_ n4_
   have n0_ := a0_ (v3_ HO0_1.out)
   have n1_ := a0_ (v3_ HO286.out)
   have n2_ := a0_ (k2_ BK282.out)
   have n3_ := a0_ (k2_ BK287.out)
   have n4_ := a0_ (b3_ HB.out)
   clear HO0_1
   clear HO286
   clear BK282
   clear BK287
   clear HB
   have HO0_1 := n0_
   have HO286 := n1_
   have BK282 := n2_
   have BK287 := n3_
   have HB := n4_
   clear n0_ n1_ n2_ n3_ n4_
   refine start_ (n := 12) (S := fun w' => w'.cell? ⟨gb282, 0, none⟩ = some (.bool a0_0) ∧ w'.cell? ⟨gb282, 1, none⟩ = some (.slice A0_1 l0_1.length c0_1) ∧ w'.cell? ⟨gb287, 0, none⟩ = some (.bool t283) ∧ w'.cell? ⟨gb287, 1, none⟩ = some (.slice Ao10 t284.length co10)) (ds := []) #[false, false, false, false, false, false, false, false, false, false, false, false] (by kernel_rfl) rfl rfl ⟨(blk_cell BK282.out 0).trans rfl, (blk_cell BK282.out 1).trans rfl, (blk_cell BK287.out 0).trans rfl, (blk_cell BK287.out 1).trans rfl⟩ (fun hHeld => ?_); refine with_tabW spec_ToWords.tab2 spec_ToWords.bits2 (fun HT_ HW_ => ?_)
   generalize w21.drew = w22 at HO0_1 HO286 BK282 BK287 HB hHeld ⊢
   refine take_ (i := 0) (N := some 17) (v := ?_) (a' := ?_) #[true, false, false, false, false, false, false, false, false, false, false, false] rfl rfl (take_ofW HT_.out HW_.out (by kernel_rfl)) (fun _ _ _ h => h) (Or.inl ⟨by rfl, ?_⟩) hHeld ?_ ?_
   rotate_left
   ·
    rintro w' ⟨s0, s1, s2, s3⟩
    go_simp
    with_reducible rfl
   rotate_left
   ·
    simp only [Act.put, s1_, s2_, s3_, i64_w, i32_w]
    rfl
   refine take_ (i := 1) (N := some 18) (v := ?_) (a' := ?_) #[true, true, false, false, false, false, false, false, false, false, false, false] rfl rfl (take_ofW HT_.out HW_.out (by kernel_rfl)) (fun _ _ _ h => h) (Or.inl ⟨by rfl, ?_⟩) hHeld ?_ ?_
   rotate_left
   ·
    rintro w' ⟨s0, s1, s2, s3⟩
    go_simp
    with_reducible rfl
   rotate_left
   ·
    simp only [Act.put, s1_, s2_, s3_, i64_w, i32_w]
    rfl
   refine one_ (i := 2) (N := some 19) #[true, true, true, false, false, false, false, false, false, false, false, false] rfl rfl (one_of HT_.out (by kernel_rfl)) (by decide) (fun K hK => ?_)
   refine goes_ Tryd.func16 (by kernel_rfl) rfl #[.agg #[.bool a0_0, .slice A0_1 l0_1.length c0_1], .agg #[.bool t283, .slice Ao10 t284.length co10]] (by rfl) rfl rfl (by (try simp only [List.map_toArray, List.map_cons, List.map_nil]); first | done | rfl | (simp only [List.length_drop, List.length_take]; rfl)) ?_
   with_reducible refine (spec_WideCmp.calls k a0_0 _ _ l0_1 t283 _ _ t284 t288 _ ?side1 ?side2 ?side3 ?side4 A11.out).mono ?_
   (case side1 => repeat (first | exact (Kd.V_reads' HO0_1.out).2.2 | (with_reducible refine Kd.C_alloc ?_ _) | (with_reducible refine Kd.C_drewN ?_ _) | (with_reducible refine Kd.C_drew ?_)))
   (case side2 => exact (Kd.V_reads' HO0_1.out).2.1)
   (case side3 => repeat (first | exact (Kd.V_reads' HO286.out).2.2 | (with_reducible refine Kd.C_alloc ?_ _) | (with_reducible refine Kd.C_drewN ?_ _) | (with_reducible refine Kd.C_drew ?_)))
   (case side4 => exact (Kd.V_reads' HO286.out).2.1)
   rintro e w23 ⟨rfl, hb⟩
   refine ⟨_, rfl, ?_⟩
   have n0_ := a0_ (Kd.V_below (by (with_reducible repeat (first | apply v1_ | apply v2_ | apply v3_)); exact HO0_1.out) hb)
   have n1_ := a0_ (Kd.V_below (by (with_reducible repeat (first | apply v1_ | apply v2_ | apply v3_)); exact HO286.out) hb)
   have n2_ := a0_ (blk_below (g := gb282) (o := .cells #[.bool a0_0, .slice A0_1 l0_1.length c0_1] 26 (0, 0)) (by (with_reducible repeat (first | refine k1_ ?_ _ | refine k2_ ?_ | refine k3_ ?_ _)); exact BK282.out) hb)
   have n3_ := a0_ (blk_below (g := gb287) (o := .cells #[.bool t283, .slice Ao10 t284.length co10] 26 (0, 0)) (by (with_reducible repeat (first | refine k1_ ?_ _ | refine k2_ ?_ | refine k3_ ?_ _)); exact BK287.out) hb)
   have n4_ := a0_ (below_step (by repeat (first | (with_reducible first | exact HB.out | apply b1_ | apply b2_ | apply b3_ | refine b4_ ?_ GE282.out | refine b4_ ?_ GE287.out) | exact HB.out)) hb)
   clear HO0_1
   clear HO286
   clear BK282
   clear BK287
   clear HB
   have HO0_1 := n0_
   have HO286 := n1_
   have BK282 := n2_
   have BK287 := n3_
   have HB := n4_
   clear n0_ n1_ n2_ n3_ n4_
   (try clear hb)
   (try clear hb2)
   (try clear hk)
   (try clear hi)
   refine hK.out _ _ ⟨(blk_cell BK282.out 0).trans rfl, (blk_cell BK282.out 1).trans rfl, (blk_cell BK287.out 0).trans rfl, (blk_cell BK287.out 1).trans rfl⟩ (fun hHeld => ?_)
   clear hK K
   refine norm_ (a' := ?_) ?_ ?_
   rotate_left
   ·
    show Act.put _ (some 19) _ = _
    simp only [Act.put, s1_, s2_, s3_, i64_w, i32_w]
    rfl
   refine pure_ (i := 3) (N := some 20) (v := ?_) (a' := ?_) #[true, true, true, true, false, false, false, false, false, false, false, false] rfl rfl (any_of HT_.out (by kernel_rfl)) (fun _ _ _ h => h) (Or.inl ⟨by rfl, ?_⟩) ?_ ?_
   rotate_left
   ·
    intro w'
    go_simp
    with_reducible rfl
   rotate_left
   ·
    simp only [Act.put, s1_, s2_, s3_, i64_w, i32_w]
    rfl
   refine pure_ (i := 4) (N := some 21) (v := ?_) (a' := ?_) #[true, true, true, true, true, false, false, false, false, false, false, false] rfl rfl (any_of HT_.out (by kernel_rfl)) (fun _ _ _ h => h) (Or.inl ⟨by rfl, ?_⟩) ?_ ?_
   rotate_left
   ·
    intro w'
    go_simp
    with_reducible rfl
   rotate_left
   ·
    simp only [Act.put, s1_, s2_, s3_, i64_w, i32_w]
    rfl
   refine pure_ (i := 5) (N := some 22) (v := undef) (a' := ?_) #[true, true, true, true, true, true, false, false, false, false, false, false] rfl rfl (any_of HT_.out (by kernel_rfl)) (fun _ _ _ h => h) (Or.inr ⟨by rfl, rfl⟩) ?_ ?_
   rotate_left
   ·
    simp only [Act.put, s1_, s2_, s3_, i64_w, i32_w]
    rfl
   refine pure_ (i := 6) (N := some 23) (v := undef) (a' := ?_) #[true, true, true, true, true, true, true, false, false, false, false, false] rfl rfl (any_of HT_.out (by kernel_rfl)) (fun _ _ _ h => h) (Or.inr ⟨by rfl, rfl⟩) ?_ ?_
   rotate_left
   ·
    simp only [Act.put, s1_, s2_, s3_, i64_w, i32_w]
    rfl
   refine pure_ (i := 7) (N := some 24) (v := undef) (a' := ?_) #[true, true, true, true, true, true, true, true, false, false, false, false] rfl rfl (any_of HT_.out (by kernel_rfl)) (fun _ _ _ h => h) (Or.inr ⟨by rfl, rfl⟩) ?_ ?_
   rotate_left
   ·
    simp only [Act.put, s1_, s2_, s3_, i64_w, i32_w]
    rfl
   refine pure_ (i := 8) (N := some 25) (v := undef) (a' := ?_) #[true, true, true, true, true, true, true, true, true, false, false, false] rfl rfl (any_of HT_.out (by kernel_rfl)) (fun _ _ _ h => h) (Or.inr ⟨by rfl, rfl⟩) ?_ ?_
   rotate_left
   ·
    simp only [Act.put, s1_, s2_, s3_, i64_w, i32_w]
    rfl
   refine pure_ (i := 9) (N := some 26) (v := undef) (a' := ?_) #[true, true, true, true, true, true, true, true, true, true, false, false] rfl rfl (any_of HT_.out (by kernel_rfl)) (fun _ _ _ h => h) (Or.inr ⟨by rfl, rfl⟩) ?_ ?_
   rotate_left
   ·
    simp only [Act.put, s1_, s2_, s3_, i64_w, i32_w]
    rfl
   refine pure_ (i := 10) (N := some 27) (v := ?_) (a' := ?_) #[true, true, true, true, true, true, true, true, true, true, true, false] rfl rfl (any_of HT_.out (by kernel_rfl)) (fun _ _ _ h => h) (Or.inl ⟨by rfl, ?_⟩) ?_ ?_
   rotate_left
   ·
    intro w'
    go_simp
    with_reducible rfl
   rotate_left
   ·
    simp only [Act.put, s1_, s2_, s3_, i64_w, i32_w]
    rfl
   refine pure_ (i := 11) (N := some 7) (v := ?_) (a' := ?_) #[true, true, true, true, true, true, true, true, true, true, true, true] rfl rfl (any_of HT_.out (by kernel_rfl)) (fun _ _ _ h => h) (Or.inl ⟨by rfl, ?_⟩) ?_ ?_
   rotate_left
   ·
    intro w'
    go_simp
    with_reducible rfl
   rotate_left
   ·
    simp only [Act.put, s1_, s2_, s3_, i64_w, i32_w]
    rfl
   refine done_ (done_of HT_.out (by kernel_rfl)) ?_
   try go_wp2
   go_meet
   case rel => exact ⟨_, (false), (by first | rfl | (simp; done) | (simp [*]; done)), H', ⟨by first | omega | exact Nat.le_refl _⟩, ⟨by (with_reducible repeat (first | apply v1_ | apply v2_ | apply v3_)); exact HO0_1.out⟩, ⟨by (with_reducible repeat (first | apply v1_ | apply v2_ | apply v3_)); exact HO286.out⟩, ⟨by (with_reducible repeat (first | refine k1_ ?_ _ | refine k2_ ?_ | refine k3_ ?_ _)); exact BK282.out⟩, ⟨by (with_reducible repeat (first | refine k1_ ?_ _ | refine k2_ ?_ | refine k3_ ?_ _)); exact BK287.out⟩, ⟨by repeat (first | (with_reducible first | exact HB.out | apply b1_ | apply b2_ | apply b3_ | refine b4_ ?_ GE282.out | refine b4_ ?_ GE287.out) | exact HB.out)⟩⟩
 case rest =>
  clear HC4
  try clear c1
  try clear p2
  try clear p6
  try clear c8
  try clear c9
  try clear c12
  try clear c12b0
  try clear c15
  try clear c16
  try clear c17
  try clear hcz9_0
  try clear hcz9_1
  try clear hfz9_0
  try clear hfz9_1
  obtain ⟨kq, x7_3, rfl, HA, HJ3, HO_283001, HO_288001, BK282, BK287, HB⟩ := hcut
  cases kq with
  | zero => exact absurd HA.out (by simp [spec_ToWords.j0])
  | succ kj3 =>
   have H := HA.out
   clear HA
   simp only [spec_ToWords.j0] at H
   have HC24 := a0_ H
   clear H
   have hnb25 := NB282_287.out
   have hnc25 := NB287_282.out
   have hcz26_0 : wc.cell? ⟨gb282, 0, none⟩ = some (.bool a0_0) := (blk_cell BK282.out 0).trans rfl
   have hcz26_1 : wc.cell? ⟨gb282, 1, none⟩ = some (.slice A0_1 l0_1.length c0_1) := (blk_cell BK282.out 1).trans rfl
   have hfz26_0 := blk_frozen BK282.out 0
   have hfz26_1 := blk_frozen BK282.out 1
   go_upto_if 29 with (fail)
   go_cut [] (fun wc => ∃ (kq : Nat) (x283000_23 : Bool) (x283001_23 : List Int) (u283001 : Value), Aside0 (spec_ToWords.j1 kq a1 x7_3 x283000_23 x283001_23 = some (r1, r2)) ∧ Aside0 (kq ≤ kj3) ∧ Aside0 (Kd.V (Kd.int .u32) 40 wc w.heap.size (fun k_ => (P0_1_ k_ ∨ w.heap.size ≤ k_) ∧ k_ ≠ gb282 ∧ k_ ≠ gb287) u283001 x283001_23) ∧ Aside0 (Kd.V (Kd.int .u32) 40 wc w.heap.size (fun k_ => (P0_1_ k_ ∨ w.heap.size ≤ k_) ∧ k_ ≠ gb282 ∧ k_ ≠ gb287) (.slice Ao10 t284.length co10) t284) ∧ Aside0 (wc.heap[gb282]? = some (.cells #[.bool x283000_23, u283001] 26 (0, 0))) ∧ Aside0 (wc.heap[gb287]? = some (.cells #[.bool t283, (.slice Ao10 t284.length co10)] 26 (0, 0))) ∧ Aside0 (Below w.heap.size w wc))
   case first =>
    have H := HC24.out
    clear HC24
    by_cases c27 : a0_0 = true
    ·
     subst c27
     have H1 : ((spec_Two.f kj3 (wrap64 (64 * a1))).bind fun bt294 => ((spec_WideDiv.f kj3 true l0_1 bt294.1 bt294.2).bind fun bt298 => ((spec_Two.f kj3 (wrap64 (64 * a1))).bind fun bt308 => ((spec_WideAdd.f kj3 bt298.2.2.1 bt298.2.2.2 bt308.1 bt308.2).bind fun bt312 => (spec_ToWords.j1 kj3 a1 x7_3 bt312.1 bt312.2))))) = some (r1, r2) := by rw [if_pos rfl] at H; exact H
     clear H
     have H := H1
     clear H1
     replace H := Option.bind_eq_some_iff.mp H
     obtain ⟨⟨t294, t295⟩, A280, H⟩ := H
     replace H : ((spec_WideDiv.f kj3 true l0_1 t294 t295).bind fun bt298 => ((spec_Two.f kj3 (wrap64 (64 * a1))).bind fun bt308 => ((spec_WideAdd.f kj3 bt298.2.2.1 bt298.2.2.2 bt308.1 bt308.2).bind fun bt312 => (spec_ToWords.j1 kj3 a1 x7_3 bt312.1 bt312.2)))) = some (r1, r2) := H
     have A28 := a0_ A280
     clear A280
     replace H := Option.bind_eq_some_iff.mp H
     obtain ⟨⟨t298, t299, t302, t303⟩, A290, H⟩ := H
     replace H : ((spec_Two.f kj3 (wrap64 (64 * a1))).bind fun bt308 => ((spec_WideAdd.f kj3 t302 t303 bt308.1 bt308.2).bind fun bt312 => (spec_ToWords.j1 kj3 a1 x7_3 bt312.1 bt312.2))) = some (r1, r2) := H
     have A29 := a0_ A290
     clear A290
     replace H := Option.bind_eq_some_iff.mp H
     obtain ⟨⟨t308, t309⟩, A300, H⟩ := H
     replace H : ((spec_WideAdd.f kj3 t302 t303 t308 t309).bind fun bt312 => (spec_ToWords.j1 kj3 a1 x7_3 bt312.1 bt312.2)) = some (r1, r2) := H
     have A30 := a0_ A300
     clear A300
     replace H := Option.bind_eq_some_iff.mp H
     obtain ⟨⟨t312, t313⟩, A310, H⟩ := H
     replace H : (spec_ToWords.j1 kj3 a1 x7_3 t312 t313) = some (r1, r2) := H
     have A31 := a0_ A310
     clear A310
     have H' := a0_ H
     clear H
     try go_wp2
     have n0_ := a0_ (v3_ HO_283001.out)
     have n1_ := a0_ (v3_ HO_288001.out)
     have n2_ := a0_ (k2_ BK282.out)
     have n3_ := a0_ (k2_ BK287.out)
     have n4_ := a0_ (b3_ HB.out)
     clear HO_283001
     clear HO_288001
     clear BK282
     clear BK287
     clear HB
     have HO_283001 := n0_
     have HO_288001 := n1_
     have BK282 := n2_
     have BK287 := n3_
     have HB := n4_
     clear n0_ n1_ n2_ n3_ n4_
     refine start_ (n := 12) (S := fun w' => w'.cell? ⟨gb282, 0, none⟩ = some (.bool true) ∧ w'.cell? ⟨gb282, 1, none⟩ = some (.slice A0_1 l0_1.length c0_1)) (ds := []) #[false, false, false, false, false, false, false, false, false, false, false, false] (by kernel_rfl) rfl rfl ⟨(blk_cell BK282.out 0).trans rfl, (blk_cell BK282.out 1).trans rfl⟩ (fun hHeld => ?_); refine with_tabW spec_ToWords.tab4 spec_ToWords.bits4 (fun HT_ HW_ => ?_)
     generalize wc.drew = w32 at HO_283001 HO_288001 BK282 BK287 HB hHeld ⊢
     refine pure_ (i := 1) (N := some 32) (v := ?_) (a' := ?_) #[false, true, false, false, false, false, false, false, false, false, false, false] rfl rfl (any_of HT_.out (by kernel_rfl)) (fun _ _ _ h => h) (Or.inl ⟨by rfl, ?_⟩) ?_ ?_
     rotate_left
     ·
      intro w'
      go_simp
      with_reducible rfl
     rotate_left
     ·
      simp only [Act.put, s1_, s2_, s3_, i64_w, i32_w]
      rfl
     refine pure_ (i := 2) (N := some 33) (v := ?_) (a' := ?_) #[false, true, true, false, false, false, false, false, false, false, false, false] rfl rfl (any_of HT_.out (by kernel_rfl)) (fun _ _ _ h => h) (Or.inl ⟨by rfl, ?_⟩) ?_ ?_
     rotate_left
     ·
      intro w'
      go_simp
      with_reducible rfl
     rotate_left
     ·
      simp only [Act.put, s1_, s2_, s3_, i64_w, i32_w]
      rfl
     refine take_ (i := 0) (N := some 31) (v := ?_) (a' := ?_) #[true, true, true, false, false, false, false, false, false, false, false, false] rfl rfl (take_ofW HT_.out HW_.out (by kernel_rfl)) (fun _ _ _ h => h) (Or.inl ⟨by rfl, ?_⟩) hHeld ?_ ?_
     rotate_left
     ·
      rintro w' ⟨s0, s1⟩
      go_simp
      with_reducible rfl
     rotate_left
     ·
      simp only [Act.put, s1_, s2_, s3_, i64_w, i32_w]
      rfl
     refine join_ (σ := Value × Value × Value × Nat × Nat) 2 #[true, true, true, true, true, true, true, true, true, true, false, false] (fun s_ => [(34, .agg #[.bool t294, s_.1]), (35, .tuple #[.agg #[.bool t298, s_.2.1], .agg #[.bool t302, s_.2.2.1]]), (8, .pointer (some ⟨s_.2.2.2.1, 0, none⟩)), (9, .pointer (some ⟨s_.2.2.2.2, 0, none⟩)), (30, .tuple #[.agg #[.bool t298, s_.2.1], .agg #[.bool t302, s_.2.2.1]]), (36, .agg #[.bool t298, s_.2.1]), (37, .agg #[.bool t302, s_.2.2.1])]) (fun s_ w' => (w'.cell? ⟨gb282, 0, none⟩ = some (.bool true) ∧ w'.cell? ⟨gb282, 1, none⟩ = some (.slice A0_1 l0_1.length c0_1)) ∧ (Kd.V (Kd.int .u32) 40 w' w.heap.size (fun k_ => (P0_1_ k_ ∨ w.heap.size ≤ k_) ∧ k_ ≠ gb282 ∧ k_ ≠ gb287 ∧ k_ ≠ s_.2.2.2.1 ∧ k_ ≠ s_.2.2.2.2) s_.1 t295) ∧ (Kd.V (Kd.int .u32) 40 w' w.heap.size (fun k_ => (P0_1_ k_ ∨ w.heap.size ≤ k_) ∧ k_ ≠ gb282 ∧ k_ ≠ gb287 ∧ k_ ≠ s_.2.2.2.1 ∧ k_ ≠ s_.2.2.2.2) s_.2.1 t299) ∧ (Kd.V (Kd.int .u32) 40 w' w.heap.size (fun k_ => (P0_1_ k_ ∨ w.heap.size ≤ k_) ∧ k_ ≠ gb282 ∧ k_ ≠ gb287 ∧ k_ ≠ s_.2.2.2.1 ∧ k_ ≠ s_.2.2.2.2) s_.2.2.1 t303) ∧ (Kd.V (Kd.int .u32) 40 w' w.heap.size (fun k_ => (P0_1_ k_ ∨ w.heap.size ≤ k_) ∧ k_ ≠ gb282 ∧ k_ ≠ gb287 ∧ k_ ≠ s_.2.2.2.1 ∧ k_ ≠ s_.2.2.2.2) (.slice A0_1 l0_1.length c0_1) l0_1) ∧ (Kd.V (Kd.int .u32) 40 w' w.heap.size (fun k_ => (P0_1_ k_ ∨ w.heap.size ≤ k_) ∧ k_ ≠ gb282 ∧ k_ ≠ gb287 ∧ k_ ≠ s_.2.2.2.1 ∧ k_ ≠ s_.2.2.2.2) (.slice Ao10 t284.length co10) t284) ∧ (w'.heap[gb282]? = some (.cells #[.bool true, .slice A0_1 l0_1.length c0_1] 26 (0, 0))) ∧ (w'.heap[gb287]? = some (.cells #[.bool t283, .slice Ao10 t284.length co10] 26 (0, 0))) ∧ (w'.heap[s_.2.2.2.1]? = some (.cells #[.bool false, .slice none 0 0] 26 (0, 0))) ∧ (w'.heap[s_.2.2.2.2]? = some (.cells #[.bool false, .slice none 0 0] 26 (0, 0))) ∧ (w.heap.size ≤ s_.2.2.2.1) ∧ (w.heap.size ≤ s_.2.2.2.1) ∧ (gb282 ≠ s_.2.2.2.1) ∧ (s_.2.2.2.1 ≠ gb282) ∧ (gb287 ≠ s_.2.2.2.1) ∧ (s_.2.2.2.1 ≠ gb287) ∧ (s_.2.2.2.2 ≠ s_.2.2.2.1) ∧ (s_.2.2.2.1 ≠ s_.2.2.2.2) ∧ (w.heap.size ≤ s_.2.2.2.2) ∧ (w.heap.size ≤ s_.2.2.2.2) ∧ (gb282 ≠ s_.2.2.2.2) ∧ (s_.2.2.2.2 ≠ gb282) ∧ (gb287 ≠ s_.2.2.2.2) ∧ (s_.2.2.2.2 ≠ gb287) ∧ (Below w.heap.size w w')) ?_ ?_
     rotate_left
     ·
      intro hJ3_4_8_9
      refine join_ (σ := Value × Value × Value × Nat) 3 #[true, true, true, true, true, true, true, true, true, false, false, false] (fun s_ => [(34, .agg #[.bool t294, s_.1]), (35, .tuple #[.agg #[.bool t298, s_.2.1], .agg #[.bool t302, s_.2.2.1]]), (8, .pointer (some ⟨s_.2.2.2, 0, none⟩)), (30, .tuple #[.agg #[.bool t298, s_.2.1], .agg #[.bool t302, s_.2.2.1]]), (36, .agg #[.bool t298, s_.2.1]), (37, .agg #[.bool t302, s_.2.2.1])]) (fun s_ w' => (w'.cell? ⟨gb282, 0, none⟩ = some (.bool true) ∧ w'.cell? ⟨gb282, 1, none⟩ = some (.slice A0_1 l0_1.length c0_1)) ∧ (Kd.V (Kd.int .u32) 40 w' w.heap.size (fun k_ => (P0_1_ k_ ∨ w.heap.size ≤ k_) ∧ k_ ≠ gb282 ∧ k_ ≠ gb287 ∧ k_ ≠ s_.2.2.2) s_.1 t295) ∧ (Kd.V (Kd.int .u32) 40 w' w.heap.size (fun k_ => (P0_1_ k_ ∨ w.heap.size ≤ k_) ∧ k_ ≠ gb282 ∧ k_ ≠ gb287 ∧ k_ ≠ s_.2.2.2) s_.2.1 t299) ∧ (Kd.V (Kd.int .u32) 40 w' w.heap.size (fun k_ => (P0_1_ k_ ∨ w.heap.size ≤ k_) ∧ k_ ≠ gb282 ∧ k_ ≠ gb287 ∧ k_ ≠ s_.2.2.2) s_.2.2.1 t303) ∧ (Kd.V (Kd.int .u32) 40 w' w.heap.size (fun k_ => (P0_1_ k_ ∨ w.heap.size ≤ k_) ∧ k_ ≠ gb282 ∧ k_ ≠ gb287 ∧ k_ ≠ s_.2.2.2) (.slice A0_1 l0_1.length c0_1) l0_1) ∧ (Kd.V (Kd.int .u32) 40 w' w.heap.size (fun k_ => (P0_1_ k_ ∨ w.heap.size ≤ k_) ∧ k_ ≠ gb282 ∧ k_ ≠ gb287 ∧ k_ ≠ s_.2.2.2) (.slice Ao10 t284.length co10) t284) ∧ (w'.heap[gb282]? = some (.cells #[.bool true, .slice A0_1 l0_1.length c0_1] 26 (0, 0))) ∧ (w'.heap[gb287]? = some (.cells #[.bool t283, .slice Ao10 t284.length co10] 26 (0, 0))) ∧ (w'.heap[s_.2.2.2]? = some (.cells #[.bool false, .slice none 0 0] 26 (0, 0))) ∧ (w.heap.size ≤ s_.2.2.2) ∧ (w.heap.size ≤ s_.2.2.2) ∧ (gb282 ≠ s_.2.2.2) ∧ (s_.2.2.2 ≠ gb282) ∧ (gb287 ≠ s_.2.2.2) ∧ (s_.2.2.2 ≠ gb287) ∧ (Below w.heap.size w w')) ?_ ?_
      rotate_left
      ·
       intro hJ3_4_8
       refine join_ (σ := Value × Value × Value × Nat) 3 #[true, true, true, true, true, true, true, true, false, true, false, false] (fun s_ => [(34, .agg #[.bool t294, s_.1]), (35, .tuple #[.agg #[.bool t298, s_.2.1], .agg #[.bool t302, s_.2.2.1]]), (9, .pointer (some ⟨s_.2.2.2, 0, none⟩)), (30, .tuple #[.agg #[.bool t298, s_.2.1], .agg #[.bool t302, s_.2.2.1]]), (36, .agg #[.bool t298, s_.2.1]), (37, .agg #[.bool t302, s_.2.2.1])]) (fun s_ w' => (w'.cell? ⟨gb282, 0, none⟩ = some (.bool true) ∧ w'.cell? ⟨gb282, 1, none⟩ = some (.slice A0_1 l0_1.length c0_1)) ∧ (Kd.V (Kd.int .u32) 40 w' w.heap.size (fun k_ => (P0_1_ k_ ∨ w.heap.size ≤ k_) ∧ k_ ≠ gb282 ∧ k_ ≠ gb287 ∧ k_ ≠ s_.2.2.2) s_.1 t295) ∧ (Kd.V (Kd.int .u32) 40 w' w.heap.size (fun k_ => (P0_1_ k_ ∨ w.heap.size ≤ k_) ∧ k_ ≠ gb282 ∧ k_ ≠ gb287 ∧ k_ ≠ s_.2.2.2) s_.2.1 t299) ∧ (Kd.V (Kd.int .u32) 40 w' w.heap.size (fun k_ => (P0_1_ k_ ∨ w.heap.size ≤ k_) ∧ k_ ≠ gb282 ∧ k_ ≠ gb287 ∧ k_ ≠ s_.2.2.2) s_.2.2.1 t303) ∧ (Kd.V (Kd.int .u32) 40 w' w.heap.size (fun k_ => (P0_1_ k_ ∨ w.heap.size ≤ k_) ∧ k_ ≠ gb282 ∧ k_ ≠ gb287 ∧ k_ ≠ s_.2.2.2) (.slice A0_1 l0_1.length c0_1) l0_1) ∧ (Kd.V (Kd.int .u32) 40 w' w.heap.size (fun k_ => (P0_1_ k_ ∨ w.heap.size ≤ k_) ∧ k_ ≠ gb282 ∧ k_ ≠ gb287 ∧ k_ ≠ s_.2.2.2) (.slice Ao10 t284.length co10) t284) ∧ (w'.heap[gb282]? = some (.cells #[.bool true, .slice A0_1 l0_1.length c0_1] 26 (0, 0))) ∧ (w'.heap[gb287]? = some (.cells #[.bool t283, .slice Ao10 t284.length co10] 26 (0, 0))) ∧ (w'.heap[s_.2.2.2]? = some (.cells #[.bool false, .slice none 0 0] 26 (0, 0))) ∧ (w.heap.size ≤ s_.2.2.2) ∧ (w.heap.size ≤ s_.2.2.2) ∧ (gb282 ≠ s_.2.2.2) ∧ (s_.2.2.2 ≠ gb282) ∧ (gb287 ≠ s_.2.2.2) ∧ (s_.2.2.2 ≠ gb287) ∧ (Below w.heap.size w w')) ?_ ?_
       rotate_left
       ·
        intro hJ3_4_9
        refine join_ (σ := Value × Nat × Nat) 6 #[true, true, true, true, false, false, false, false, true, true, false, false] (fun s_ => [(34, .agg #[.bool t294, s_.1]), (8, .pointer (some ⟨s_.2.1, 0, none⟩)), (9, .pointer (some ⟨s_.2.2, 0, none⟩))]) (fun s_ w' => (w'.cell? ⟨gb282, 0, none⟩ = some (.bool true) ∧ w'.cell? ⟨gb282, 1, none⟩ = some (.slice A0_1 l0_1.length c0_1)) ∧ (Kd.V (Kd.int .u32) 40 w' w.heap.size (fun k_ => (P0_1_ k_ ∨ w.heap.size ≤ k_) ∧ k_ ≠ gb282 ∧ k_ ≠ gb287 ∧ k_ ≠ s_.2.1 ∧ k_ ≠ s_.2.2) s_.1 t295) ∧ (Kd.V (Kd.int .u32) 40 w' w.heap.size (fun k_ => (P0_1_ k_ ∨ w.heap.size ≤ k_) ∧ k_ ≠ gb282 ∧ k_ ≠ gb287 ∧ k_ ≠ s_.2.1 ∧ k_ ≠ s_.2.2) (.slice A0_1 l0_1.length c0_1) l0_1) ∧ (Kd.V (Kd.int .u32) 40 w' w.heap.size (fun k_ => (P0_1_ k_ ∨ w.heap.size ≤ k_) ∧ k_ ≠ gb282 ∧ k_ ≠ gb287 ∧ k_ ≠ s_.2.1 ∧ k_ ≠ s_.2.2) (.slice Ao10 t284.length co10) t284) ∧ (w'.heap[gb282]? = some (.cells #[.bool true, .slice A0_1 l0_1.length c0_1] 26 (0, 0))) ∧ (w'.heap[gb287]? = some (.cells #[.bool t283, .slice Ao10 t284.length co10] 26 (0, 0))) ∧ (w'.heap[s_.2.1]? = some (.cells #[.bool false, .slice none 0 0] 26 (0, 0))) ∧ (w'.heap[s_.2.2]? = some (.cells #[.bool false, .slice none 0 0] 26 (0, 0))) ∧ (w.heap.size ≤ s_.2.1) ∧ (w.heap.size ≤ s_.2.1) ∧ (gb282 ≠ s_.2.1) ∧ (s_.2.1 ≠ gb282) ∧ (gb287 ≠ s_.2.1) ∧ (s_.2.1 ≠ gb287) ∧ (s_.2.2 ≠ s_.2.1) ∧ (s_.2.1 ≠ s_.2.2) ∧ (w.heap.size ≤ s_.2.2) ∧ (w.heap.size ≤ s_.2.2) ∧ (gb282 ≠ s_.2.2) ∧ (s_.2.2 ≠ gb282) ∧ (gb287 ≠ s_.2.2) ∧ (s_.2.2 ≠ gb287) ∧ (Below w.heap.size w w')) ?_ ?_
        rotate_left
        ·
         intro hJ3_8_9
         refine join_ (σ := Value × Value × Value) 4 #[true, true, true, true, true, true, true, true, false, false, false, false] (fun s_ => [(34, .agg #[.bool t294, s_.1]), (35, .tuple #[.agg #[.bool t298, s_.2.1], .agg #[.bool t302, s_.2.2]]), (30, .tuple #[.agg #[.bool t298, s_.2.1], .agg #[.bool t302, s_.2.2]]), (36, .agg #[.bool t298, s_.2.1]), (37, .agg #[.bool t302, s_.2.2])]) (fun s_ w' => (w'.cell? ⟨gb282, 0, none⟩ = some (.bool true) ∧ w'.cell? ⟨gb282, 1, none⟩ = some (.slice A0_1 l0_1.length c0_1)) ∧ (Kd.V (Kd.int .u32) 40 w' w.heap.size (fun k_ => (P0_1_ k_ ∨ w.heap.size ≤ k_) ∧ k_ ≠ gb282 ∧ k_ ≠ gb287) s_.1 t295) ∧ (Kd.V (Kd.int .u32) 40 w' w.heap.size (fun k_ => (P0_1_ k_ ∨ w.heap.size ≤ k_) ∧ k_ ≠ gb282 ∧ k_ ≠ gb287) s_.2.1 t299) ∧ (Kd.V (Kd.int .u32) 40 w' w.heap.size (fun k_ => (P0_1_ k_ ∨ w.heap.size ≤ k_) ∧ k_ ≠ gb282 ∧ k_ ≠ gb287) s_.2.2 t303) ∧ (Kd.V (Kd.int .u32) 40 w' w.heap.size (fun k_ => (P0_1_ k_ ∨ w.heap.size ≤ k_) ∧ k_ ≠ gb282 ∧ k_ ≠ gb287) (.slice A0_1 l0_1.length c0_1) l0_1) ∧ (Kd.V (Kd.int .u32) 40 w' w.heap.size (fun k_ => (P0_1_ k_ ∨ w.heap.size ≤ k_) ∧ k_ ≠ gb282 ∧ k_ ≠ gb287) (.slice Ao10 t284.length co10) t284) ∧ (w'.heap[gb282]? = some (.cells #[.bool true, .slice A0_1 l0_1.length c0_1] 26 (0, 0))) ∧ (w'.heap[gb287]? = some (.cells #[.bool t283, .slice Ao10 t284.length co10] 26 (0, 0))) ∧ (Below w.heap.size w w')) ?_ ?_
         rotate_left
         ·
          intro hJ3_4
          refine join_ (σ := Value × Nat) 7 #[true, true, true, true, false, false, false, false, true, false, false, false] (fun s_ => [(34, .agg #[.bool t294, s_.1]), (8, .pointer (some ⟨s_.2, 0, none⟩))]) (fun s_ w' => (w'.cell? ⟨gb282, 0, none⟩ = some (.bool true) ∧ w'.cell? ⟨gb282, 1, none⟩ = some (.slice A0_1 l0_1.length c0_1)) ∧ (Kd.V (Kd.int .u32) 40 w' w.heap.size (fun k_ => (P0_1_ k_ ∨ w.heap.size ≤ k_) ∧ k_ ≠ gb282 ∧ k_ ≠ gb287 ∧ k_ ≠ s_.2) s_.1 t295) ∧ (Kd.V (Kd.int .u32) 40 w' w.heap.size (fun k_ => (P0_1_ k_ ∨ w.heap.size ≤ k_) ∧ k_ ≠ gb282 ∧ k_ ≠ gb287 ∧ k_ ≠ s_.2) (.slice A0_1 l0_1.length c0_1) l0_1) ∧ (Kd.V (Kd.int .u32) 40 w' w.heap.size (fun k_ => (P0_1_ k_ ∨ w.heap.size ≤ k_) ∧ k_ ≠ gb282 ∧ k_ ≠ gb287 ∧ k_ ≠ s_.2) (.slice Ao10 t284.length co10) t284) ∧ (w'.heap[gb282]? = some (.cells #[.bool true, .slice A0_1 l0_1.length c0_1] 26 (0, 0))) ∧ (w'.heap[gb287]? = some (.cells #[.bool t283, .slice Ao10 t284.length co10] 26 (0, 0))) ∧ (w'.heap[s_.2]? = some (.cells #[.bool false, .slice none 0 0] 26 (0, 0))) ∧ (w.heap.size ≤ s_.2) ∧ (w.heap.size ≤ s_.2) ∧ (gb282 ≠ s_.2) ∧ (s_.2 ≠ gb282) ∧ (gb287 ≠ s_.2) ∧ (s_.2 ≠ gb287) ∧ (Below w.heap.size w w')) ?_ ?_
          rotate_left
          ·
           intro hJ3_8
           refine join_ (σ := Value × Nat) 7 #[true, true, true, true, false, false, false, false, false, true, false, false] (fun s_ => [(34, .agg #[.bool t294, s_.1]), (9, .pointer (some ⟨s_.2, 0, none⟩))]) (fun s_ w' => (w'.cell? ⟨gb282, 0, none⟩ = some (.bool true) ∧ w'.cell? ⟨gb282, 1, none⟩ = some (.slice A0_1 l0_1.length c0_1)) ∧ (Kd.V (Kd.int .u32) 40 w' w.heap.size (fun k_ => (P0_1_ k_ ∨ w.heap.size ≤ k_) ∧ k_ ≠ gb282 ∧ k_ ≠ gb287 ∧ k_ ≠ s_.2) s_.1 t295) ∧ (Kd.V (Kd.int .u32) 40 w' w.heap.size (fun k_ => (P0_1_ k_ ∨ w.heap.size ≤ k_) ∧ k_ ≠ gb282 ∧ k_ ≠ gb287 ∧ k_ ≠ s_.2) (.slice A0_1 l0_1.length c0_1) l0_1) ∧ (Kd.V (Kd.int .u32) 40 w' w.heap.size (fun k_ => (P0_1_ k_ ∨ w.heap.size ≤ k_) ∧ k_ ≠ gb282 ∧ k_ ≠ gb287 ∧ k_ ≠ s_.2) (.slice Ao10 t284.length co10) t284) ∧ (w'.heap[gb282]? = some (.cells #[.bool true, .slice A0_1 l0_1.length c0_1] 26 (0, 0))) ∧ (w'.heap[gb287]? = some (.cells #[.bool t283, .slice Ao10 t284.length co10] 26 (0, 0))) ∧ (w'.heap[s_.2]? = some (.cells #[.bool false, .slice none 0 0] 26 (0, 0))) ∧ (w.heap.size ≤ s_.2) ∧ (w.heap.size ≤ s_.2) ∧ (gb282 ≠ s_.2) ∧ (s_.2 ≠ gb282) ∧ (gb287 ≠ s_.2) ∧ (s_.2 ≠ gb287) ∧ (Below w.heap.size w w')) ?_ ?_
           rotate_left
           ·
            intro hJ3_9
            refine join_ (σ := Nat × Nat) 7 #[true, true, true, false, false, false, false, false, true, true, false, false] (fun s_ => [(8, .pointer (some ⟨s_.1, 0, none⟩)), (9, .pointer (some ⟨s_.2, 0, none⟩))]) (fun s_ w' => (w'.cell? ⟨gb282, 0, none⟩ = some (.bool true) ∧ w'.cell? ⟨gb282, 1, none⟩ = some (.slice A0_1 l0_1.length c0_1)) ∧ (Kd.V (Kd.int .u32) 40 w' w.heap.size (fun k_ => (P0_1_ k_ ∨ w.heap.size ≤ k_) ∧ k_ ≠ gb282 ∧ k_ ≠ gb287 ∧ k_ ≠ s_.1 ∧ k_ ≠ s_.2) (.slice A0_1 l0_1.length c0_1) l0_1) ∧ (Kd.V (Kd.int .u32) 40 w' w.heap.size (fun k_ => (P0_1_ k_ ∨ w.heap.size ≤ k_) ∧ k_ ≠ gb282 ∧ k_ ≠ gb287 ∧ k_ ≠ s_.1 ∧ k_ ≠ s_.2) (.slice Ao10 t284.length co10) t284) ∧ (w'.heap[gb282]? = some (.cells #[.bool true, .slice A0_1 l0_1.length c0_1] 26 (0, 0))) ∧ (w'.heap[gb287]? = some (.cells #[.bool t283, .slice Ao10 t284.length co10] 26 (0, 0))) ∧ (w'.heap[s_.1]? = some (.cells #[.bool false, .slice none 0 0] 26 (0, 0))) ∧ (w'.heap[s_.2]? = some (.cells #[.bool false, .slice none 0 0] 26 (0, 0))) ∧ (w.heap.size ≤ s_.1) ∧ (w.heap.size ≤ s_.1) ∧ (gb282 ≠ s_.1) ∧ (s_.1 ≠ gb282) ∧ (gb287 ≠ s_.1) ∧ (s_.1 ≠ gb287) ∧ (s_.2 ≠ s_.1) ∧ (s_.1 ≠ s_.2) ∧ (w.heap.size ≤ s_.2) ∧ (w.heap.size ≤ s_.2) ∧ (gb282 ≠ s_.2) ∧ (s_.2 ≠ gb282) ∧ (gb287 ≠ s_.2) ∧ (s_.2 ≠ gb287) ∧ (Below w.heap.size w w')) ?_ ?_
            rotate_left
            ·
             intro hJ8_9
             refine join_ (σ := Value) 8 #[true, true, true, true, false, false, false, false, false, false, false, false] (fun s_ => [(34, .agg #[.bool t294, s_])]) (fun s_ w' => (w'.cell? ⟨gb282, 0, none⟩ = some (.bool true) ∧ w'.cell? ⟨gb282, 1, none⟩ = some (.slice A0_1 l0_1.length c0_1)) ∧ (Kd.V (Kd.int .u32) 40 w' w.heap.size (fun k_ => (P0_1_ k_ ∨ w.heap.size ≤ k_) ∧ k_ ≠ gb282 ∧ k_ ≠ gb287) s_ t295) ∧ (Kd.V (Kd.int .u32) 40 w' w.heap.size (fun k_ => (P0_1_ k_ ∨ w.heap.size ≤ k_) ∧ k_ ≠ gb282 ∧ k_ ≠ gb287) (.slice A0_1 l0_1.length c0_1) l0_1) ∧ (Kd.V (Kd.int .u32) 40 w' w.heap.size (fun k_ => (P0_1_ k_ ∨ w.heap.size ≤ k_) ∧ k_ ≠ gb282 ∧ k_ ≠ gb287) (.slice Ao10 t284.length co10) t284) ∧ (w'.heap[gb282]? = some (.cells #[.bool true, .slice A0_1 l0_1.length c0_1] 26 (0, 0))) ∧ (w'.heap[gb287]? = some (.cells #[.bool t283, .slice Ao10 t284.length co10] 26 (0, 0))) ∧ (Below w.heap.size w w')) ?_ ?_
             rotate_left
             ·
              intro hJ3
              refine join_ (σ := Nat) 8 #[true, true, true, false, false, false, false, false, true, false, false, false] (fun s_ => [(8, .pointer (some ⟨s_, 0, none⟩))]) (fun s_ w' => (w'.cell? ⟨gb282, 0, none⟩ = some (.bool true) ∧ w'.cell? ⟨gb282, 1, none⟩ = some (.slice A0_1 l0_1.length c0_1)) ∧ (Kd.V (Kd.int .u32) 40 w' w.heap.size (fun k_ => (P0_1_ k_ ∨ w.heap.size ≤ k_) ∧ k_ ≠ gb282 ∧ k_ ≠ gb287 ∧ k_ ≠ s_) (.slice A0_1 l0_1.length c0_1) l0_1) ∧ (Kd.V (Kd.int .u32) 40 w' w.heap.size (fun k_ => (P0_1_ k_ ∨ w.heap.size ≤ k_) ∧ k_ ≠ gb282 ∧ k_ ≠ gb287 ∧ k_ ≠ s_) (.slice Ao10 t284.length co10) t284) ∧ (w'.heap[gb282]? = some (.cells #[.bool true, .slice A0_1 l0_1.length c0_1] 26 (0, 0))) ∧ (w'.heap[gb287]? = some (.cells #[.bool t283, .slice Ao10 t284.length co10] 26 (0, 0))) ∧ (w'.heap[s_]? = some (.cells #[.bool false, .slice none 0 0] 26 (0, 0))) ∧ (w.heap.size ≤ s_) ∧ (w.heap.size ≤ s_) ∧ (gb282 ≠ s_) ∧ (s_ ≠ gb282) ∧ (gb287 ≠ s_) ∧ (s_ ≠ gb287) ∧ (Below w.heap.size w w')) ?_ ?_
              rotate_left
              ·
               intro hJ8
               refine join_ (σ := Nat) 8 #[true, true, true, false, false, false, false, false, false, true, false, false] (fun s_ => [(9, .pointer (some ⟨s_, 0, none⟩))]) (fun s_ w' => (w'.cell? ⟨gb282, 0, none⟩ = some (.bool true) ∧ w'.cell? ⟨gb282, 1, none⟩ = some (.slice A0_1 l0_1.length c0_1)) ∧ (Kd.V (Kd.int .u32) 40 w' w.heap.size (fun k_ => (P0_1_ k_ ∨ w.heap.size ≤ k_) ∧ k_ ≠ gb282 ∧ k_ ≠ gb287 ∧ k_ ≠ s_) (.slice A0_1 l0_1.length c0_1) l0_1) ∧ (Kd.V (Kd.int .u32) 40 w' w.heap.size (fun k_ => (P0_1_ k_ ∨ w.heap.size ≤ k_) ∧ k_ ≠ gb282 ∧ k_ ≠ gb287 ∧ k_ ≠ s_) (.slice Ao10 t284.length co10) t284) ∧ (w'.heap[gb282]? = some (.cells #[.bool true, .slice A0_1 l0_1.length c0_1] 26 (0, 0))) ∧ (w'.heap[gb287]? = some (.cells #[.bool t283, .slice Ao10 t284.length co10] 26 (0, 0))) ∧ (w'.heap[s_]? = some (.cells #[.bool false, .slice none 0 0] 26 (0, 0))) ∧ (w.heap.size ≤ s_) ∧ (w.heap.size ≤ s_) ∧ (gb282 ≠ s_) ∧ (s_ ≠ gb282) ∧ (gb287 ≠ s_) ∧ (s_ ≠ gb287) ∧ (Below w.heap.size w w')) ?_ ?_
               rotate_left
               ·
                intro hJ9
                refine three_ (i := 3) (j := 8) (k := 9) (Ni := some 34) (Nj := some 8) (Nk := some 9) #[true, true, true, true, false, false, false, false, false, false, false, false] #[true, true, true, false, false, false, false, false, true, false, false, false] #[true, true, true, false, false, false, false, false, false, true, false, false] rfl rfl rfl rfl rfl rfl (three_of HT_.out (by kernel_rfl)) (by decide) (by decide) (by decide) (fun K hK => ?_) (fun K hK => ?_) (fun K hK => ?_)
                ·
                 skip
                 refine goes_ Tryd.func15 (by kernel_rfl) rfl #[.int .i64 (wrap64 (64 * a1))] (by rfl) rfl rfl (by (try simp only [List.map_toArray, List.map_cons, List.map_nil]); first | done | rfl | (simp only [List.length_drop, List.length_take]; rfl)) ?_
                 with_reducible refine (spec_Two.calls kj3 (wrap64 (64 * a1)) t294 t295 _ A28.out).mono ?_
                 rintro e w33 ⟨v296, rfl, ho0, hb⟩
                 refine ⟨_, rfl, ?_⟩
                 have n0_ := a0_ (Kd.V_below (by (with_reducible repeat (first | apply v1_ | apply v2_ | apply v3_)); exact HO_283001.out) hb)
                 have n1_ := a0_ (Kd.V_below (by (with_reducible repeat (first | apply v1_ | apply v2_ | apply v3_)); exact HO_288001.out) hb)
                 have n2_ := a0_ (Kd.V_lower (v4_ (ok' := fun k_ => (P0_1_ k_ ∨ w.heap.size ≤ k_) ∧ k_ ≠ gb282 ∧ k_ ≠ gb287) ho0 (fun k_ hk_ => ⟨(.inr (Nat.le_trans (below_size (by repeat (first | (with_reducible first | exact HB.out | apply b1_ | apply b2_ | apply b3_ | refine b4_ ?_ GE282.out | refine b4_ ?_ GE287.out) | exact HB.out))) hk_)), (Kd.freshB (g := gb282) (o := .cells #[.bool true, .slice A0_1 l0_1.length c0_1] 26 (0, 0)) (by (with_reducible repeat (first | refine k1_ ?_ _ | refine k2_ ?_ | refine k3_ ?_ _)); exact BK282.out) k_ hk_), (Kd.freshB (g := gb287) (o := .cells #[.bool t283, .slice Ao10 t284.length co10] 26 (0, 0)) (by (with_reducible repeat (first | refine k1_ ?_ _ | refine k2_ ?_ | refine k3_ ?_ _)); exact BK287.out) k_ hk_)⟩)) (below_size (by repeat (first | (with_reducible first | exact HB.out | apply b1_ | apply b2_ | apply b3_ | refine b4_ ?_ GE282.out | refine b4_ ?_ GE287.out) | exact HB.out))))
                 have n3_ := a0_ (blk_below (g := gb282) (o := .cells #[.bool true, .slice A0_1 l0_1.length c0_1] 26 (0, 0)) (by (with_reducible repeat (first | refine k1_ ?_ _ | refine k2_ ?_ | refine k3_ ?_ _)); exact BK282.out) hb)
                 have n4_ := a0_ (blk_below (g := gb287) (o := .cells #[.bool t283, .slice Ao10 t284.length co10] 26 (0, 0)) (by (with_reducible repeat (first | refine k1_ ?_ _ | refine k2_ ?_ | refine k3_ ?_ _)); exact BK287.out) hb)
                 have n5_ := a0_ (below_step (by repeat (first | (with_reducible first | exact HB.out | apply b1_ | apply b2_ | apply b3_ | refine b4_ ?_ GE282.out | refine b4_ ?_ GE287.out) | exact HB.out)) hb)
                 clear HO_283001
                 clear HO_288001
                 clear BK282
                 clear BK287
                 clear HB
                 have HO_283001 := n0_
                 have HO_288001 := n1_
                 have HO297 := n2_
                 have BK282 := n3_
                 have BK287 := n4_
                 have HB := n5_
                 clear n0_ n1_ n2_ n3_ n4_ n5_
                 (try clear hb)
                 (try clear hb2)
                 (try clear hk)
                 (try clear hi)
                 (try clear ho0)
                 refine hK.out _ _ ⟨(blk_cell BK282.out 0).trans rfl, (blk_cell BK282.out 1).trans rfl⟩ (fun hHeld => ?_)
                 clear hK K
                 refine norm_ (a' := ?_) ?_ ?_
                 rotate_left
                 ·
                  show Act.put _ (some 34) _ = _
                  simp only [Act.put, s1_, s2_, s3_, i64_w, i32_w]
                  rfl
                 exact norm_ (by first | (simp only [putAll, Act.put, s1_, s2_, s3_]; done) | (simp only [putAll, Act.put, s1_, s2_, s3_]; rfl)) (hJ3 (v296) _ ⟨hHeld, (by (with_reducible repeat (first | apply v1_ | apply v2_ | apply v3_)); exact HO297.out), (by (with_reducible repeat (first | apply v1_ | apply v2_ | apply v3_)); exact HO_283001.out), (by (with_reducible repeat (first | apply v1_ | apply v2_ | apply v3_)); exact HO_288001.out), (by (with_reducible repeat (first | refine k1_ ?_ _ | refine k2_ ?_ | refine k3_ ?_ _)); exact BK282.out), (by (with_reducible repeat (first | refine k1_ ?_ _ | refine k2_ ?_ | refine k3_ ?_ _)); exact BK287.out), (by repeat (first | (with_reducible first | exact HB.out | apply b1_ | apply b2_ | apply b3_ | refine b4_ ?_ GE282.out | refine b4_ ?_ GE287.out) | exact HB.out))⟩)
                ·
                 skip
                 refine box_step ?hg (N := 8) ?hd (cs := #[.bool false, .slice none 0 0]) (t := 26) ?hr ?_; (case hd => rfl); (case hg => rfl); (case hr => first | (go_simp; done) | (go_simp; rfl))
                 intro gb306 hg w33 hbox hb
                 have n0_ := a0_ (Kd.V_below (Kd.V_elderB (by (with_reducible repeat (first | apply v1_ | apply v2_ | apply v3_)); exact HO_283001.out) gb306 (Nat.le_of_eq hg.symm)) hb)
                 have n1_ := a0_ (Kd.V_below (Kd.V_elderB (by (with_reducible repeat (first | apply v1_ | apply v2_ | apply v3_)); exact HO_288001.out) gb306 (Nat.le_of_eq hg.symm)) hb)
                 have n2_ := a0_ (blk_below (g := gb282) (o := .cells #[.bool true, .slice A0_1 l0_1.length c0_1] 26 (0, 0)) (by (with_reducible repeat (first | refine k1_ ?_ _ | refine k2_ ?_ | refine k3_ ?_ _)); exact BK282.out) hb)
                 have n3_ := a0_ (blk_below (g := gb287) (o := .cells #[.bool t283, .slice Ao10 t284.length co10] 26 (0, 0)) (by (with_reducible repeat (first | refine k1_ ?_ _ | refine k2_ ?_ | refine k3_ ?_ _)); exact BK287.out) hb)
                 have n4_ := a0_ (below_step (by repeat (first | (with_reducible first | exact HB.out | apply b1_ | apply b2_ | apply b3_ | refine b4_ ?_ GE282.out | refine b4_ ?_ GE287.out) | exact HB.out)) hb)
                 have n5_ := a0_ (hbox)
                 have n6_ := a0_ ((by rw [hg]; exact (below_size (by repeat (first | (with_reducible first | exact HB.out | apply b1_ | apply b2_ | apply b3_ | refine b4_ ?_ GE282.out | refine b4_ ?_ GE287.out) | exact HB.out))) : w.heap.size ≤ gb306))
                 have n7_ := a0_ ((by rw [hg]; exact (below_size (by repeat (first | (with_reducible first | exact HB.out | apply b1_ | apply b2_ | apply b3_ | refine b4_ ?_ GE282.out | refine b4_ ?_ GE287.out) | exact HB.out))) : w.heap.size ≤ gb306))
                 have n8_ := a0_ ((by rw [hg]; exact Nat.ne_of_lt (blk_lt (g := gb282) (o := .cells #[.bool true, .slice A0_1 l0_1.length c0_1] 26 (0, 0)) (by (with_reducible repeat (first | refine k1_ ?_ _ | refine k2_ ?_ | refine k3_ ?_ _)); exact BK282.out)) : gb282 ≠ gb306))
                 have n9_ := a0_ ((by rw [hg]; exact Nat.ne_of_gt (blk_lt (g := gb282) (o := .cells #[.bool true, .slice A0_1 l0_1.length c0_1] 26 (0, 0)) (by (with_reducible repeat (first | refine k1_ ?_ _ | refine k2_ ?_ | refine k3_ ?_ _)); exact BK282.out)) : gb306 ≠ gb282))
                 have n10_ := a0_ ((by rw [hg]; exact Nat.ne_of_lt (blk_lt (g := gb287) (o := .cells #[.bool t283, .slice Ao10 t284.length co10] 26 (0, 0)) (by (with_reducible repeat (first | refine k1_ ?_ _ | refine k2_ ?_ | refine k3_ ?_ _)); exact BK287.out)) : gb287 ≠ gb306))
                 have n11_ := a0_ ((by rw [hg]; exact Nat.ne_of_gt (blk_lt (g := gb287) (o := .cells #[.bool t283, .slice Ao10 t284.length co10] 26 (0, 0)) (by (with_reducible repeat (first | refine k1_ ?_ _ | refine k2_ ?_ | refine k3_ ?_ _)); exact BK287.out)) : gb306 ≠ gb287))
                 clear HO_283001
                 clear HO_288001
                 clear BK282
                 clear BK287
                 clear HB
                 have HO_283001 := n0_
                 have HO_288001 := n1_
                 have BK282 := n2_
                 have BK287 := n3_
                 have HB := n4_
                 have BK306 := n5_
                 have GW306 := n6_
                 have GE306 := n7_
                 have NB282_306 := n8_
                 have NB306_282 := n9_
                 have NB287_306 := n10_
                 have NB306_287 := n11_
                 clear n0_ n1_ n2_ n3_ n4_ n5_ n6_ n7_ n8_ n9_ n10_ n11_
                 clear hb hbox hg
                 refine hK.out _ _ ⟨(blk_cell BK282.out 0).trans rfl, (blk_cell BK282.out 1).trans rfl⟩ (fun hHeld => ?_)
                 clear hK K
                 refine norm_ (a' := ?_) ?_ ?_
                 rotate_left
                 ·
                  show Act.put _ (some 8) _ = _
                  simp only [Act.put, s1_, s2_, s3_, i64_w, i32_w]
                  rfl
                 exact norm_ (by first | (simp only [putAll, Act.put, s1_, s2_, s3_]; done) | (simp only [putAll, Act.put, s1_, s2_, s3_]; rfl)) (hJ8 (gb306) _ ⟨hHeld, (by (with_reducible repeat (first | apply v1_ | apply v2_ | apply v3_)); exact v4_ HO_283001.out (fun _ hk => ⟨hk.1.1, ⟨hk.1.2.1, ⟨hk.1.2.2, hk.2⟩⟩⟩)), (by (with_reducible repeat (first | apply v1_ | apply v2_ | apply v3_)); exact v4_ HO_288001.out (fun _ hk => ⟨hk.1.1, ⟨hk.1.2.1, ⟨hk.1.2.2, hk.2⟩⟩⟩)), (by (with_reducible repeat (first | refine k1_ ?_ _ | refine k2_ ?_ | refine k3_ ?_ _)); exact BK282.out), (by (with_reducible repeat (first | refine k1_ ?_ _ | refine k2_ ?_ | refine k3_ ?_ _)); exact BK287.out), (by (with_reducible repeat (first | refine k1_ ?_ _ | refine k2_ ?_ | refine k3_ ?_ _)); exact BK306.out), GW306.out, GE306.out, NB282_306.out, NB306_282.out, NB287_306.out, NB306_287.out, (by repeat (first | (with_reducible first | exact HB.out | apply b1_ | apply b2_ | apply b3_ | refine b4_ ?_ GE282.out | refine b4_ ?_ GE287.out | refine b4_ ?_ GE306.out) | exact HB.out))⟩)
                ·
                 skip
                 refine box_step ?hg (N := 9) ?hd (cs := #[.bool false, .slice none 0 0]) (t := 26) ?hr ?_; (case hd => rfl); (case hg => rfl); (case hr => first | (go_simp; done) | (go_simp; rfl))
                 intro gb307 hg w33 hbox hb
                 have n0_ := a0_ (Kd.V_below (Kd.V_elderB (by (with_reducible repeat (first | apply v1_ | apply v2_ | apply v3_)); exact HO_283001.out) gb307 (Nat.le_of_eq hg.symm)) hb)
                 have n1_ := a0_ (Kd.V_below (Kd.V_elderB (by (with_reducible repeat (first | apply v1_ | apply v2_ | apply v3_)); exact HO_288001.out) gb307 (Nat.le_of_eq hg.symm)) hb)
                 have n2_ := a0_ (blk_below (g := gb282) (o := .cells #[.bool true, .slice A0_1 l0_1.length c0_1] 26 (0, 0)) (by (with_reducible repeat (first | refine k1_ ?_ _ | refine k2_ ?_ | refine k3_ ?_ _)); exact BK282.out) hb)
                 have n3_ := a0_ (blk_below (g := gb287) (o := .cells #[.bool t283, .slice Ao10 t284.length co10] 26 (0, 0)) (by (with_reducible repeat (first | refine k1_ ?_ _ | refine k2_ ?_ | refine k3_ ?_ _)); exact BK287.out) hb)
                 have n4_ := a0_ (below_step (by repeat (first | (with_reducible first | exact HB.out | apply b1_ | apply b2_ | apply b3_ | refine b4_ ?_ GE282.out | refine b4_ ?_ GE287.out) | exact HB.out)) hb)
                 have n5_ := a0_ (hbox)
                 have n6_ := a0_ ((by rw [hg]; exact (below_size (by repeat (first | (with_reducible first | exact HB.out | apply b1_ | apply b2_ | apply b3_ | refine b4_ ?_ GE282.out | refine b4_ ?_ GE287.out) | exact HB.out))) : w.heap.size ≤ gb307))
                 have n7_ := a0_ ((by rw [hg]; exact (below_size (by repeat (first | (with_reducible first | exact HB.out | apply b1_ | apply b2_ | apply b3_ | refine b4_ ?_ GE282.out | refine b4_ ?_ GE287.out) | exact HB.out))) : w.heap.size ≤ gb307))
                 have n8_ := a0_ ((by rw [hg]; exact Nat.ne_of_lt (blk_lt (g := gb282) (o := .cells #[.bool true, .slice A0_1 l0_1.length c0_1] 26 (0, 0)) (by (with_reducible repeat (first | refine k1_ ?_ _ | refine k2_ ?_ | refine k3_ ?_ _)); exact BK282.out)) : gb282 ≠ gb307))
                 have n9_ := a0_ ((by rw [hg]; exact Nat.ne_of_gt (blk_lt (g := gb282) (o := .cells #[.bool true, .slice A0_1 l0_1.length c0_1] 26 (0, 0)) (by (with_reducible repeat (first | refine k1_ ?_ _ | refine k2_ ?_ | refine k3_ ?_ _)); exact BK282.out)) : gb307 ≠ gb282))
                 have n10_ := a0_ ((by rw [hg]; exact Nat.ne_of_lt (blk_lt (g := gb287) (o := .cells #[.bool t283, .slice Ao10 t284.length co10] 26 (0, 0)) (by (with_reducible repeat (first | refine k1_ ?_ _ | refine k2_ ?_ | refine k3_ ?_ _)); exact BK287.out)) : gb287 ≠ gb307))
                 have n11_ := a0_ ((by rw [hg]; exact Nat.ne_of_gt (blk_lt (g := gb287) (o := .cells #[.bool t283, .slice Ao10 t284.length co10] 26 (0, 0)) (by (with_reducible repeat (first | refine k1_ ?_ _ | refine k2_ ?_ | refine k3_ ?_ _)); exact BK287.out)) : gb307 ≠ gb287))
                 clear HO_283001
                 clear HO_288001
                 clear BK282
                 clear BK287
                 clear HB
                 have HO_283001 := n0_
                 have HO_288001 := n1_
                 have BK282 := n2_
                 have BK287 := n3_
                 have HB := n4_
                 have BK307 := n5_
                 have GW307 := n6_
                 have GE307 := n7_
                 have NB282_307 := n8_
                 have NB307_282 := n9_
                 have NB287_307 := n10_
                 have NB307_287 := n11_
                 clear n0_ n1_ n2_ n3_ n4_ n5_ n6_ n7_ n8_ n9_ n10_ n11_
                 clear hb hbox hg
                 refine hK.out _ _ ⟨(blk_cell BK282.out 0).trans rfl, (blk_cell BK282.out 1).trans rfl⟩ (fun hHeld => ?_)
                 clear hK K
                 refine norm_ (a' := ?_) ?_ ?_
                 rotate_left
                 ·
                  show Act.put _ (some 9) _ = _
                  simp only [Act.put, s1_, s2_, s3_, i64_w, i32_w]
                  rfl
                 exact norm_ (by first | (simp only [putAll, Act.put, s1_, s2_, s3_]; done) | (simp only [putAll, Act.put, s1_, s2_, s3_]; rfl)) (hJ9 (gb307) _ ⟨hHeld, (by (with_reducible repeat (first | apply v1_ | apply v2_ | apply v3_)); exact v4_ HO_283001.out (fun _ hk => ⟨hk.1.1, ⟨hk.1.2.1, ⟨hk.1.2.2, hk.2⟩⟩⟩)), (by (with_reducible repeat (first | apply v1_ | apply v2_ | apply v3_)); exact v4_ HO_288001.out (fun _ hk => ⟨hk.1.1, ⟨hk.1.2.1, ⟨hk.1.2.2, hk.2⟩⟩⟩)), (by (with_reducible repeat (first | refine k1_ ?_ _ | refine k2_ ?_ | refine k3_ ?_ _)); exact BK282.out), (by (with_reducible repeat (first | refine k1_ ?_ _ | refine k2_ ?_ | refine k3_ ?_ _)); exact BK287.out), (by (with_reducible repeat (first | refine k1_ ?_ _ | refine k2_ ?_ | refine k3_ ?_ _)); exact BK307.out), GW307.out, GE307.out, NB282_307.out, NB307_282.out, NB287_307.out, NB307_287.out, (by repeat (first | (with_reducible first | exact HB.out | apply b1_ | apply b2_ | apply b3_ | refine b4_ ?_ GE282.out | refine b4_ ?_ GE287.out | refine b4_ ?_ GE307.out) | exact HB.out))⟩)
               ·
                skip
                rintro gb307 w34 ⟨hS_, h0_, h1_, h2_, h3_, h4_, h5_, h6_, h7_, h8_, h9_, h10_, h11_⟩
                have n0_ : Aside0 (Kd.V (Kd.int .u32) 40 w34 w.heap.size (fun k_ => (P0_1_ k_ ∨ w.heap.size ≤ k_) ∧ k_ ≠ gb282 ∧ k_ ≠ gb287 ∧ k_ ≠ gb307) (.slice A0_1 l0_1.length c0_1) l0_1) := ⟨h0_⟩
                have n1_ : Aside0 (Kd.V (Kd.int .u32) 40 w34 w.heap.size (fun k_ => (P0_1_ k_ ∨ w.heap.size ≤ k_) ∧ k_ ≠ gb282 ∧ k_ ≠ gb287 ∧ k_ ≠ gb307) (.slice Ao10 t284.length co10) t284) := ⟨h1_⟩
                have n2_ : Aside0 (w34.heap[gb282]? = some (.cells #[.bool true, .slice A0_1 l0_1.length c0_1] 26 (0, 0))) := ⟨h2_⟩
                have n3_ : Aside0 (w34.heap[gb287]? = some (.cells #[.bool t283, .slice Ao10 t284.length co10] 26 (0, 0))) := ⟨h3_⟩
                have n4_ : Aside0 (w34.heap[gb307]? = some (.cells #[.bool false, .slice none 0 0] 26 (0, 0))) := ⟨h4_⟩
                have n5_ : Aside0 (w.heap.size ≤ gb307) := ⟨h5_⟩
                have n6_ : Aside0 (w.heap.size ≤ gb307) := ⟨h6_⟩
                have n7_ : Aside0 (gb282 ≠ gb307) := ⟨h7_⟩
                have n8_ : Aside0 (gb307 ≠ gb282) := ⟨h8_⟩
                have n9_ : Aside0 (gb287 ≠ gb307) := ⟨h9_⟩
                have n10_ : Aside0 (gb307 ≠ gb287) := ⟨h10_⟩
                have n11_ : Aside0 (Below w.heap.size w w34) := ⟨h11_⟩
                clear HO_283001
                clear HO_288001
                clear BK282
                clear BK287
                clear HB
                clear h0_ h1_ h2_ h3_ h4_ h5_ h6_ h7_ h8_ h9_ h10_ h11_
                have HO_283001 := n0_
                have HO_288001 := n1_
                have BK282 := n2_
                have BK287 := n3_
                have BK307 := n4_
                have GW307 := n5_
                have GE307 := n6_
                have NB282_307 := n7_
                have NB307_282 := n8_
                have NB287_307 := n9_
                have NB307_287 := n10_
                have HB := n11_
                clear n0_ n1_ n2_ n3_ n4_ n5_ n6_ n7_ n8_ n9_ n10_ n11_
                have hHeld : w34.cell? ⟨gb282, 0, none⟩ = some (.bool true) ∧ w34.cell? ⟨gb282, 1, none⟩ = some (.slice A0_1 l0_1.length c0_1) := hS_
                refine norm_ (a' := ?_) ?_ ?_
                rotate_left
                ·
                 simp only [putAll, Act.put, s1_, s2_, s3_]
                 rfl
                refine two_ (i := 3) (j := 8) (Ni := some 34) (Nj := some 8) #[true, true, true, true, false, false, false, false, false, true, false, false] #[true, true, true, false, false, false, false, false, true, true, false, false] rfl rfl rfl rfl (two_of HT_.out (by kernel_rfl)) (by decide) (by decide) (fun K hK => ?_) (fun K hK => ?_)
                ·
                 skip
                 refine goes_ Tryd.func15 (by kernel_rfl) rfl #[.int .i64 (wrap64 (64 * a1))] (by rfl) rfl rfl (by (try simp only [List.map_toArray, List.map_cons, List.map_nil]); first | done | rfl | (simp only [List.length_drop, List.length_take]; rfl)) ?_
                 with_reducible refine (spec_Two.calls kj3 (wrap64 (64 * a1)) t294 t295 _ A28.out).mono ?_
                 rintro e w35 ⟨v296, rfl, ho0, hb⟩
                 refine ⟨_, rfl, ?_⟩
                 have n0_ := a0_ (Kd.V_below (by (with_reducible repeat (first | apply v1_ | apply v2_ | apply v3_)); exact HO_283001.out) hb)
                 have n1_ := a0_ (Kd.V_below (by (with_reducible repeat (first | apply v1_ | apply v2_ | apply v3_)); exact HO_288001.out) hb)
                 have n2_ := a0_ (Kd.V_lower (v4_ (ok' := fun k_ => (P0_1_ k_ ∨ w.heap.size ≤ k_) ∧ k_ ≠ gb282 ∧ k_ ≠ gb287 ∧ k_ ≠ gb307) ho0 (fun k_ hk_ => ⟨(.inr (Nat.le_trans (below_size (by repeat (first | (with_reducible first | exact HB.out | apply b1_ | apply b2_ | apply b3_ | refine b4_ ?_ GE282.out | refine b4_ ?_ GE287.out | refine b4_ ?_ GE307.out) | exact HB.out))) hk_)), (Kd.freshB (g := gb282) (o := .cells #[.bool true, .slice A0_1 l0_1.length c0_1] 26 (0, 0)) (by (with_reducible repeat (first | refine k1_ ?_ _ | refine k2_ ?_ | refine k3_ ?_ _)); exact BK282.out) k_ hk_), (Kd.freshB (g := gb287) (o := .cells #[.bool t283, .slice Ao10 t284.length co10] 26 (0, 0)) (by (with_reducible repeat (first | refine k1_ ?_ _ | refine k2_ ?_ | refine k3_ ?_ _)); exact BK287.out) k_ hk_), (Kd.freshB (g := gb307) (o := .cells #[.bool false, .slice none 0 0] 26 (0, 0)) (by (with_reducible repeat (first | refine k1_ ?_ _ | refine k2_ ?_ | refine k3_ ?_ _)); exact BK307.out) k_ hk_)⟩)) (below_size (by repeat (first | (with_reducible first | exact HB.out | apply b1_ | apply b2_ | apply b3_ | refine b4_ ?_ GE282.out | refine b4_ ?_ GE287.out | refine b4_ ?_ GE307.out) | exact HB.out))))
                 have n3_ := a0_ (blk_below (g := gb282) (o := .cells #[.bool true, .slice A0_1 l0_1.length c0_1] 26 (0, 0)) (by (with_reducible repeat (first | refine k1_ ?_ _ | refine k2_ ?_ | refine k3_ ?_ _)); exact BK282.out) hb)
                 have n4_ := a0_ (blk_below (g := gb287) (o := .cells #[.bool t283, .slice Ao10 t284.length co10] 26 (0, 0)) (by (with_reducible repeat (first | refine k1_ ?_ _ | refine k2_ ?_ | refine k3_ ?_ _)); exact BK287.out) hb)
                 have n5_ := a0_ (blk_below (g := gb307) (o := .cells #[.bool false, .slice none 0 0] 26 (0, 0)) (by (with_reducible repeat (first | refine k1_ ?_ _ | refine k2_ ?_ | refine k3_ ?_ _)); exact BK307.out) hb)
                 have n6_ := a0_ (below_step (by repeat (first | (with_reducible first | exact HB.out | apply b1_ | apply b2_ | apply b3_ | refine b4_ ?_ GE282.out | refine b4_ ?_ GE287.out | refine b4_ ?_ GE307.out) | exact HB.out)) hb)
                 clear HO_283001
                 clear HO_288001
                 clear BK282
                 clear BK287
                 clear BK307
                 clear HB
                 have HO_283001 := n0_
                 have HO_288001 := n1_
                 have HO297 := n2_
                 have BK282 := n3_
                 have BK287 := n4_
                 have BK307 := n5_
                 have HB := n6_
                 clear n0_ n1_ n2_ n3_ n4_ n5_ n6_
                 (try clear hb)
                 (try clear hb2)
                 (try clear hk)
                 (try clear hi)
                 (try clear ho0)
                 refine hK.out _ _ ⟨(blk_cell BK282.out 0).trans rfl, (blk_cell BK282.out 1).trans rfl⟩ (fun hHeld => ?_)
                 clear hK K
                 refine norm_ (a' := ?_) ?_ ?_
                 rotate_left
                 ·
                  show Act.put _ (some 34) _ = _
                  simp only [Act.put, s1_, s2_, s3_, i64_w, i32_w]
                  rfl
                 exact norm_ (by first | (simp only [putAll, Act.put, s1_, s2_, s3_]; done) | (simp only [putAll, Act.put, s1_, s2_, s3_]; rfl)) (hJ3_9 (v296, gb307) _ ⟨hHeld, (by (with_reducible repeat (first | apply v1_ | apply v2_ | apply v3_)); exact HO297.out), (by (with_reducible repeat (first | apply v1_ | apply v2_ | apply v3_)); exact HO_283001.out), (by (with_reducible repeat (first | apply v1_ | apply v2_ | apply v3_)); exact HO_288001.out), (by (with_reducible repeat (first | refine k1_ ?_ _ | refine k2_ ?_ | refine k3_ ?_ _)); exact BK282.out), (by (with_reducible repeat (first | refine k1_ ?_ _ | refine k2_ ?_ | refine k3_ ?_ _)); exact BK287.out), (by (with_reducible repeat (first | refine k1_ ?_ _ | refine k2_ ?_ | refine k3_ ?_ _)); exact BK307.out), GW307.out, GE307.out, NB282_307.out, NB307_282.out, NB287_307.out, NB307_287.out, (by repeat (first | (with_reducible first | exact HB.out | apply b1_ | apply b2_ | apply b3_ | refine b4_ ?_ GE282.out | refine b4_ ?_ GE287.out | refine b4_ ?_ GE307.out) | exact HB.out))⟩)
                ·
                 skip
                 refine box_step ?hg (N := 8) ?hd (cs := #[.bool false, .slice none 0 0]) (t := 26) ?hr ?_; (case hd => rfl); (case hg => rfl); (case hr => first | (go_simp; done) | (go_simp; rfl))
                 intro gb306 hg w35 hbox hb
                 have n0_ := a0_ (Kd.V_below (Kd.V_elderB (by (with_reducible repeat (first | apply v1_ | apply v2_ | apply v3_)); exact HO_283001.out) gb306 (Nat.le_of_eq hg.symm)) hb)
                 have n1_ := a0_ (Kd.V_below (Kd.V_elderB (by (with_reducible repeat (first | apply v1_ | apply v2_ | apply v3_)); exact HO_288001.out) gb306 (Nat.le_of_eq hg.symm)) hb)
                 have n2_ := a0_ (blk_below (g := gb282) (o := .cells #[.bool true, .slice A0_1 l0_1.length c0_1] 26 (0, 0)) (by (with_reducible repeat (first | refine k1_ ?_ _ | refine k2_ ?_ | refine k3_ ?_ _)); exact BK282.out) hb)
                 have n3_ := a0_ (blk_below (g := gb287) (o := .cells #[.bool t283, .slice Ao10 t284.length co10] 26 (0, 0)) (by (with_reducible repeat (first | refine k1_ ?_ _ | refine k2_ ?_ | refine k3_ ?_ _)); exact BK287.out) hb)
                 have n4_ := a0_ (blk_below (g := gb307) (o := .cells #[.bool false, .slice none 0 0] 26 (0, 0)) (by (with_reducible repeat (first | refine k1_ ?_ _ | refine k2_ ?_ | refine k3_ ?_ _)); exact BK307.out) hb)
                 have n5_ := a0_ (below_step (by repeat (first | (with_reducible first | exact HB.out | apply b1_ | apply b2_ | apply b3_ | refine b4_ ?_ GE282.out | refine b4_ ?_ GE287.out | refine b4_ ?_ GE307.out) | exact HB.out)) hb)
                 have n6_ := a0_ (hbox)
                 have n7_ := a0_ ((by rw [hg]; exact (below_size (by repeat (first | (with_reducible first | exact HB.out | apply b1_ | apply b2_ | apply b3_ | refine b4_ ?_ GE282.out | refine b4_ ?_ GE287.out | refine b4_ ?_ GE307.out) | exact HB.out))) : w.heap.size ≤ gb306))
                 have n8_ := a0_ ((by rw [hg]; exact (below_size (by repeat (first | (with_reducible first | exact HB.out | apply b1_ | apply b2_ | apply b3_ | refine b4_ ?_ GE282.out | refine b4_ ?_ GE287.out | refine b4_ ?_ GE307.out) | exact HB.out))) : w.heap.size ≤ gb306))
                 have n9_ := a0_ ((by rw [hg]; exact Nat.ne_of_lt (blk_lt (g := gb282) (o := .cells #[.bool true, .slice A0_1 l0_1.length c0_1] 26 (0, 0)) (by (with_reducible repeat (first | refine k1_ ?_ _ | refine k2_ ?_ | refine k3_ ?_ _)); exact BK282.out)) : gb282 ≠ gb306))
                 have n10_ := a0_ ((by rw [hg]; exact Nat.ne_of_gt (blk_lt (g := gb282) (o := .cells #[.bool true, .slice A0_1 l0_1.length c0_1] 26 (0, 0)) (by (with_reducible repeat (first | refine k1_ ?_ _ | refine k2_ ?_ | refine k3_ ?_ _)); exact BK282.out)) : gb306 ≠ gb282))
                 have n11_ := a0_ ((by rw [hg]; exact Nat.ne_of_lt (blk_lt (g := gb287) (o := .cells #[.bool t283, .slice Ao10 t284.length co10] 26 (0, 0)) (by (with_reducible repeat (first | refine k1_ ?_ _ | refine k2_ ?_ | refine k3_ ?_ _)); exact BK287.out)) : gb287 ≠ gb306))
                 have n12_ := a0_ ((by rw [hg]; exact Nat.ne_of_gt (blk_lt (g := gb287) (o := .cells #[.bool t283, .slice Ao10 t284.length co10] 26 (0, 0)) (by (with_reducible repeat (first | refine k1_ ?_ _ | refine k2_ ?_ | refine k3_ ?_ _)); exact BK287.out)) : gb306 ≠ gb287))
                 have n13_ := a0_ ((by rw [hg]; exact Nat.ne_of_lt (blk_lt (g := gb307) (o := .cells #[.bool false, .slice none 0 0] 26 (0, 0)) (by (with_reducible repeat (first | refine k1_ ?_ _ | refine k2_ ?_ | refine k3_ ?_ _)); exact BK307.out)) : gb307 ≠ gb306))
                 have n14_ := a0_ ((by rw [hg]; exact Nat.ne_of_gt (blk_lt (g := gb307) (o := .cells #[.bool false, .slice none 0 0] 26 (0, 0)) (by (with_reducible repeat (first | refine k1_ ?_ _ | refine k2_ ?_ | refine k3_ ?_ _)); exact BK307.out)) : gb306 ≠ gb307))
                 clear HO_283001
                 clear HO_288001
                 clear BK282
                 clear BK287
                 clear BK307
                 clear HB
                 have HO_283001 := n0_
                 have HO_288001 := n1_
                 have BK282 := n2_
                 have BK287 := n3_
                 have BK307 := n4_
                 have HB := n5_
                 have BK306 := n6_
                 have GW306 := n7_
                 have GE306 := n8_
                 have NB282_306 := n9_
                 have NB306_282 := n10_
                 have NB287_306 := n11_
                 have NB306_287 := n12_
                 have NB307_306 := n13_
                 have NB306_307 := n14_
                 clear n0_ n1_ n2_ n3_ n4_ n5_ n6_ n7_ n8_ n9_ n10_ n11_ n12_ n13_ n14_
                 clear hb hbox hg
                 refine hK.out _ _ ⟨(blk_cell BK282.out 0).trans rfl, (blk_cell BK282.out 1).trans rfl⟩ (fun hHeld => ?_)
                 clear hK K
                 refine norm_ (a' := ?_) ?_ ?_
                 rotate_left
                 ·
                  show Act.put _ (some 8) _ = _
                  simp only [Act.put, s1_, s2_, s3_, i64_w, i32_w]
                  rfl
                 exact norm_ (by first | (simp only [putAll, Act.put, s1_, s2_, s3_]; done) | (simp only [putAll, Act.put, s1_, s2_, s3_]; rfl)) (hJ8_9 (gb306, gb307) _ ⟨hHeld, (by (with_reducible repeat (first | apply v1_ | apply v2_ | apply v3_)); exact v4_ HO_283001.out (fun _ hk => ⟨hk.1.1, ⟨hk.1.2.1, ⟨hk.1.2.2.1, ⟨hk.2, hk.1.2.2.2⟩⟩⟩⟩)), (by (with_reducible repeat (first | apply v1_ | apply v2_ | apply v3_)); exact v4_ HO_288001.out (fun _ hk => ⟨hk.1.1, ⟨hk.1.2.1, ⟨hk.1.2.2.1, ⟨hk.2, hk.1.2.2.2⟩⟩⟩⟩)), (by (with_reducible repeat (first | refine k1_ ?_ _ | refine k2_ ?_ | refine k3_ ?_ _)); exact BK282.out), (by (with_reducible repeat (first | refine k1_ ?_ _ | refine k2_ ?_ | refine k3_ ?_ _)); exact BK287.out), (by (with_reducible repeat (first | refine k1_ ?_ _ | refine k2_ ?_ | refine k3_ ?_ _)); exact BK306.out), (by (with_reducible repeat (first | refine k1_ ?_ _ | refine k2_ ?_ | refine k3_ ?_ _)); exact BK307.out), GW306.out, GE306.out, NB282_306.out, NB306_282.out, NB287_306.out, NB306_287.out, NB307_306.out, NB306_307.out, GW307.out, GE307.out, NB282_307.out, NB307_282.out, NB287_307.out, NB307_287.out, (by repeat (first | (with_reducible first | exact HB.out | apply b1_ | apply b2_ | apply b3_ | refine b4_ ?_ GE282.out | refine b4_ ?_ GE287.out | refine b4_ ?_ GE307.out | refine b4_ ?_ GE306.out) | exact HB.out))⟩)
              ·
               skip
               rintro gb306 w34 ⟨hS_, h0_, h1_, h2_, h3_, h4_, h5_, h6_, h7_, h8_, h9_, h10_, h11_⟩
               have n0_ : Aside0 (Kd.V (Kd.int .u32) 40 w34 w.heap.size (fun k_ => (P0_1_ k_ ∨ w.heap.size ≤ k_) ∧ k_ ≠ gb282 ∧ k_ ≠ gb287 ∧ k_ ≠ gb306) (.slice A0_1 l0_1.length c0_1) l0_1) := ⟨h0_⟩
               have n1_ : Aside0 (Kd.V (Kd.int .u32) 40 w34 w.heap.size (fun k_ => (P0_1_ k_ ∨ w.heap.size ≤ k_) ∧ k_ ≠ gb282 ∧ k_ ≠ gb287 ∧ k_ ≠ gb306) (.slice Ao10 t284.length co10) t284) := ⟨h1_⟩
               have n2_ : Aside0 (w34.heap[gb282]? = some (.cells #[.bool true, .slice A0_1 l0_1.length c0_1] 26 (0, 0))) := ⟨h2_⟩
               have n3_ : Aside0 (w34.heap[gb287]? = some (.cells #[.bool t283, .slice Ao10 t284.length co10] 26 (0, 0))) := ⟨h3_⟩
               have n4_ : Aside0 (w34.heap[gb306]? = some (.cells #[.bool false, .slice none 0 0] 26 (0, 0))) := ⟨h4_⟩
               have n5_ : Aside0 (w.heap.size ≤ gb306) := ⟨h5_⟩
               have n6_ : Aside0 (w.heap.size ≤ gb306) := ⟨h6_⟩
               have n7_ : Aside0 (gb282 ≠ gb306) := ⟨h7_⟩
               have n8_ : Aside0 (gb306 ≠ gb282) := ⟨h8_⟩
               have n9_ : Aside0 (gb287 ≠ gb306) := ⟨h9_⟩
               have n10_ : Aside0 (gb306 ≠ gb287) := ⟨h10_⟩
               have n11_ : Aside0 (Below w.heap.size w w34) := ⟨h11_⟩
               clear HO_283001
               clear HO_288001
               clear BK282
               clear BK287
               clear HB
               clear h0_ h1_ h2_ h3_ h4_ h5_ h6_ h7_ h8_ h9_ h10_ h11_
               have HO_283001 := n0_
               have HO_288001 := n1_
               have BK282 := n2_
               have BK287 := n3_
               have BK306 := n4_
               have GW306 := n5_
               have GE306 := n6_
               have NB282_306 := n7_
               have NB306_282 := n8_
               have NB287_306 := n9_
               have NB306_287 := n10_
               have HB := n11_
               clear n0_ n1_ n2_ n3_ n4_ n5_ n6_ n7_ n8_ n9_ n10_ n11_
               have hHeld : w34.cell? ⟨gb282, 0, none⟩ = some (.bool true) ∧ w34.cell? ⟨gb282, 1, none⟩ = some (.slice A0_1 l0_1.length c0_1) := hS_
               refine norm_ (a' := ?_) ?_ ?_
               rotate_left
               ·
                simp only [putAll, Act.put, s1_, s2_, s3_]
                rfl
               refine two_ (i := 3) (j := 9) (Ni := some 34) (Nj := some 9) #[true, true, true, true, false, false, false, false, true, false, false, false] #[true, true, true, false, false, false, false, false, true, true, false, false] rfl rfl rfl rfl (two_of HT_.out (by kernel_rfl)) (by decide) (by decide) (fun K hK => ?_) (fun K hK => ?_)
               ·
                skip
                refine goes_ Tryd.func15 (by kernel_rfl) rfl #[.int .i64 (wrap64 (64 * a1))] (by rfl) rfl rfl (by (try simp only [List.map_toArray, List.map_cons, List.map_nil]); first | done | rfl | (simp only [List.length_drop, List.length_take]; rfl)) ?_
                with_reducible refine (spec_Two.calls kj3 (wrap64 (64 * a1)) t294 t295 _ A28.out).mono ?_
                rintro e w35 ⟨v296, rfl, ho0, hb⟩
                refine ⟨_, rfl, ?_⟩
                have n0_ := a0_ (Kd.V_below (by (with_reducible repeat (first | apply v1_ | apply v2_ | apply v3_)); exact HO_283001.out) hb)
                have n1_ := a0_ (Kd.V_below (by (with_reducible repeat (first | apply v1_ | apply v2_ | apply v3_)); exact HO_288001.out) hb)
                have n2_ := a0_ (Kd.V_lower (v4_ (ok' := fun k_ => (P0_1_ k_ ∨ w.heap.size ≤ k_) ∧ k_ ≠ gb282 ∧ k_ ≠ gb287 ∧ k_ ≠ gb306) ho0 (fun k_ hk_ => ⟨(.inr (Nat.le_trans (below_size (by repeat (first | (with_reducible first | exact HB.out | apply b1_ | apply b2_ | apply b3_ | refine b4_ ?_ GE282.out | refine b4_ ?_ GE287.out | refine b4_ ?_ GE306.out) | exact HB.out))) hk_)), (Kd.freshB (g := gb282) (o := .cells #[.bool true, .slice A0_1 l0_1.length c0_1] 26 (0, 0)) (by (with_reducible repeat (first | refine k1_ ?_ _ | refine k2_ ?_ | refine k3_ ?_ _)); exact BK282.out) k_ hk_), (Kd.freshB (g := gb287) (o := .cells #[.bool t283, .slice Ao10 t284.length co10] 26 (0, 0)) (by (with_reducible repeat (first | refine k1_ ?_ _ | refine k2_ ?_ | refine k3_ ?_ _)); exact BK287.out) k_ hk_), (Kd.freshB (g := gb306) (o := .cells #[.bool false, .slice none 0 0] 26 (0, 0)) (by (with_reducible repeat (first | refine k1_ ?_ _ | refine k2_ ?_ | refine k3_ ?_ _)); exact BK306.out) k_ hk_)⟩)) (below_size (by repeat (first | (with_reducible first | exact HB.out | apply b1_ | apply b2_ | apply b3_ | refine b4_ ?_ GE282.out | refine b4_ ?_ GE287.out | refine b4_ ?_ GE306.out) | exact HB.out))))
                have n3_ := a0_ (blk_below (g := gb282) (o := .cells #[.bool true, .slice A0_1 l0_1.length c0_1] 26 (0, 0)) (by (with_reducible repeat (first | refine k1_ ?_ _ | refine k2_ ?_ | refine k3_ ?_ _)); exact BK282.out) hb)
                have n4_ := a0_ (blk_below (g := gb287) (o := .cells #[.bool t283, .slice Ao10 t284.length co10] 26 (0, 0)) (by (with_reducible repeat (first | refine k1_ ?_ _ | refine k2_ ?_ | refine k3_ ?_ _)); exact BK287.out) hb)
                have n5_ := a0_ (blk_below (g := gb306) (o := .cells #[.bool false, .slice none 0 0] 26 (0, 0)) (by (with_reducible repeat (first | refine k1_ ?_ _ | refine k2_ ?_ | refine k3_ ?_ _)); exact BK306.out) hb)
                have n6_ := a0_ (below_step (by repeat (first | (with_reducible first | exact HB.out | apply b1_ | apply b2_ | apply b3_ | refine b4_ ?_ GE282.out | refine b4_ ?_ GE287.out | refine b4_ ?_ GE306.out) | exact HB.out)) hb)
                clear HO_283001
                clear HO_288001
                clear BK282
                clear BK287
                clear BK306
                clear HB
                have HO_283001 := n0_
                have HO_288001 := n1_
                have HO297 := n2_
                have BK282 := n3_
                have BK287 := n4_
                have BK306 := n5_
                have HB := n6_
                clear n0_ n1_ n2_ n3_ n4_ n5_ n6_
                (try clear hb)
                (try clear hb2)
                (try clear hk)
                (try clear hi)
                (try clear ho0)
                refine hK.out _ _ ⟨(blk_cell BK282.out 0).trans rfl, (blk_cell BK282.out 1).trans rfl⟩ (fun hHeld => ?_)
                clear hK K
                refine norm_ (a' := ?_) ?_ ?_
                rotate_left
                ·
                 show Act.put _ (some 34) _ = _
                 simp only [Act.put, s1_, s2_, s3_, i64_w, i32_w]
                 rfl
                exact norm_ (by first | (simp only [putAll, Act.put, s1_, s2_, s3_]; done) | (simp only [putAll, Act.put, s1_, s2_, s3_]; rfl)) (hJ3_8 (v296, gb306) _ ⟨hHeld, (by (with_reducible repeat (first | apply v1_ | apply v2_ | apply v3_)); exact HO297.out), (by (with_reducible repeat (first | apply v1_ | apply v2_ | apply v3_)); exact HO_283001.out), (by (with_reducible repeat (first | apply v1_ | apply v2_ | apply v3_)); exact HO_288001.out), (by (with_reducible repeat (first | refine k1_ ?_ _ | refine k2_ ?_ | refine k3_ ?_ _)); exact BK282.out), (by (with_reducible repeat (first | refine k1_ ?_ _ | refine k2_ ?_ | refine k3_ ?_ _)); exact BK287.out), (by (with_reducible repeat (first | refine k1_ ?_ _ | refine k2_ ?_ | refine k3_ ?_ _)); exact BK306.out), GW306.out, GE306.out, NB282_306.out, NB306_282.out, NB287_306.out, NB306_287.out, (by repeat (first | (with_reducible first | exact HB.out | apply b1_ | apply b2_ | apply b3_ | refine b4_ ?_ GE282.out | refine b4_ ?_ GE287.out | refine b4_ ?_ GE306.out) | exact HB.out))⟩)
               ·
                skip
                refine box_step ?hg (N := 9) ?hd (cs := #[.bool false, .slice none 0 0]) (t := 26) ?hr ?_; (case hd => rfl); (case hg => rfl); (case hr => first | (go_simp; done) | (go_simp; rfl))
                intro gb307 hg w35 hbox hb
                have n0_ := a0_ (Kd.V_below (Kd.V_elderB (by (with_reducible repeat (first | apply v1_ | apply v2_ | apply v3_)); exact HO_283001.out) gb307 (Nat.le_of_eq hg.symm)) hb)
                have n1_ := a0_ (Kd.V_below (Kd.V_elderB (by (with_reducible repeat (first | apply v1_ | apply v2_ | apply v3_)); exact HO_288001.out) gb307 (Nat.le_of_eq hg.symm)) hb)
                have n2_ := a0_ (blk_below (g := gb282) (o := .cells #[.bool true, .slice A0_1 l0_1.length c0_1] 26 (0, 0)) (by (with_reducible repeat (first | refine k1_ ?_ _ | refine k2_ ?_ | refine k3_ ?_ _)); exact BK282.out) hb)
                have n3_ := a0_ (blk_below (g := gb287) (o := .cells #[.bool t283, .slice Ao10 t284.length co10] 26 (0, 0)) (by (with_reducible repeat (first | refine k1_ ?_ _ | refine k2_ ?_ | refine k3_ ?_ _)); exact BK287.out) hb)
                have n4_ := a0_ (blk_below (g := gb306) (o := .cells #[.bool false, .slice none 0 0] 26 (0, 0)) (by (with_reducible repeat (first | refine k1_ ?_ _ | refine k2_ ?_ | refine k3_ ?_ _)); exact BK306.out) hb)
                have n5_ := a0_ (below_step (by repeat (first | (with_reducible first | exact HB.out | apply b1_ | apply b2_ | apply b3_ | refine b4_ ?_ GE282.out | refine b4_ ?_ GE287.out | refine b4_ ?_ GE306.out) | exact HB.out)) hb)
                have n6_ := a0_ (hbox)
                have n7_ := a0_ ((by rw [hg]; exact (below_size (by repeat (first | (with_reducible first | exact HB.out | apply b1_ | apply b2_ | apply b3_ | refine b4_ ?_ GE282.out | refine b4_ ?_ GE287.out | refine b4_ ?_ GE306.out) | exact HB.out))) : w.heap.size ≤ gb307))
                have n8_ := a0_ ((by rw [hg]; exact (below_size (by repeat (first | (with_reducible first | exact HB.out | apply b1_ | apply b2_ | apply b3_ | refine b4_ ?_ GE282.out | refine b4_ ?_ GE287.out | refine b4_ ?_ GE306.out) | exact HB.out))) : w.heap.size ≤ gb307))
                have n9_ := a0_ ((by rw [hg]; exact Nat.ne_of_lt (blk_lt (g := gb282) (o := .cells #[.bool true, .slice A0_1 l0_1.length c0_1] 26 (0, 0)) (by (with_reducible repeat (first | refine k1_ ?_ _ | refine k2_ ?_ | refine k3_ ?_ _)); exact BK282.out)) : gb282 ≠ gb307))
                have n10_ := a0_ ((by rw [hg]; exact Nat.ne_of_gt (blk_lt (g := gb282) (o := .cells #[.bool true, .slice A0_1 l0_1.length c0_1] 26 (0, 0)) (by (with_reducible repeat (first | refine k1_ ?_ _ | refine k2_ ?_ | refine k3_ ?_ _)); exact BK282.out)) : gb307 ≠ gb282))
                have n11_ := a0_ ((by rw [hg]; exact Nat.ne_of_lt (blk_lt (g := gb287) (o := .cells #[.bool t283, .slice Ao10 t284.length co10] 26 (0, 0)) (by (with_reducible repeat (first | refine k1_ ?_ _ | refine k2_ ?_ | refine k3_ ?_ _)); exact BK287.out)) : gb287 ≠ gb307))
                have n12_ := a0_ ((by rw [hg]; exact Nat.ne_of_gt (blk_lt (g := gb287) (o := .cells #[.bool t283, .slice Ao10 t284.length co10] 26 (0, 0)) (by (with_reducible repeat (first | refine k1_ ?_ _ | refine k2_ ?_ | refine k3_ ?_ _)); exact BK287.out)) : gb307 ≠ gb287))
                have n13_ := a0_ ((by rw [hg]; exact Nat.ne_of_lt (blk_lt (g := gb306) (o := .cells #[.bool false, .slice none 0 0] 26 (0, 0)) (by (with_reducible repeat (first | refine k1_ ?_ _ | refine k2_ ?_ | refine k3_ ?_ _)); exact BK306.out)) : gb306 ≠ gb307))
                have n14_ := a0_ ((by rw [hg]; exact Nat.ne_of_gt (blk_lt (g := gb306) (o := .cells #[.bool false, .slice none 0 0] 26 (0, 0)) (by (with_reducible repeat (first | refine k1_ ?_ _ | refine k2_ ?_ | refine k3_ ?_ _)); exact BK306.out)) : gb307 ≠ gb306))
                clear HO_283001
                clear HO_288001
                clear BK282
                clear BK287
                clear BK306
                clear HB
                have HO_283001 := n0_
                have HO_288001 := n1_
                have BK282 := n2_
                have BK287 := n3_
                have BK306 := n4_
                have HB := n5_
                have BK307 := n6_
                have GW307 := n7_
                have GE307 := n8_
                have NB282_307 := n9_
                have NB307_282 := n10_
                have NB287_307 := n11_
                have NB307_287 := n12_
                have NB306_307 := n13_
                have NB307_306 := n14_
                clear n0_ n1_ n2_ n3_ n4_ n5_ n6_ n7_ n8_ n9_ n10_ n11_ n12_ n13_ n14_
                clear hb hbox hg
                refine hK.out _ _ ⟨(blk_cell BK282.out 0).trans rfl, (blk_cell BK282.out 1).trans rfl⟩ (fun hHeld => ?_)
                clear hK K
                refine norm_ (a' := ?_) ?_ ?_
                rotate_left
                ·
                 show Act.put _ (some 9) _ = _
                 simp only [Act.put, s1_, s2_, s3_, i64_w, i32_w]
                 rfl
                exact norm_ (by first | (simp only [putAll, Act.put, s1_, s2_, s3_]; done) | (simp only [putAll, Act.put, s1_, s2_, s3_]; rfl)) (hJ8_9 (gb306, gb307) _ ⟨hHeld, (by (with_reducible repeat (first | apply v1_ | apply v2_ | apply v3_)); exact v4_ HO_283001.out (fun _ hk => ⟨hk.1.1, ⟨hk.1.2.1, ⟨hk.1.2.2.1, ⟨hk.1.2.2.2, hk.2⟩⟩⟩⟩)), (by (with_reducible repeat (first | apply v1_ | apply v2_ | apply v3_)); exact v4_ HO_288001.out (fun _ hk => ⟨hk.1.1, ⟨hk.1.2.1, ⟨hk.1.2.2.1, ⟨hk.1.2.2.2, hk.2⟩⟩⟩⟩)), (by (with_reducible repeat (first | refine k1_ ?_ _ | refine k2_ ?_ | refine k3_ ?_ _)); exact BK282.out), (by (with_reducible repeat (first | refine k1_ ?_ _ | refine k2_ ?_ | refine k3_ ?_ _)); exact BK287.out), (by (with_reducible repeat (first | refine k1_ ?_ _ | refine k2_ ?_ | refine k3_ ?_ _)); exact BK306.out), (by (with_reducible repeat (first | refine k1_ ?_ _ | refine k2_ ?_ | refine k3_ ?_ _)); exact BK307.out), GW306.out, GE306.out, NB282_306.out, NB306_282.out, NB287_306.out, NB306_287.out, NB307_306.out, NB306_307.out, GW307.out, GE307.out, NB282_307.out, NB307_282.out, NB287_307.out, NB307_287.out, (by repeat (first | (with_reducible first | exact HB.out | apply b1_ | apply b2_ | apply b3_ | refine b4_ ?_ GE282.out | refine b4_ ?_ GE287.out | refine b4_ ?_ GE306.out | refine b4_ ?_ GE307.out) | exact HB.out))⟩)
             ·
              skip
              rintro v296 w34 ⟨hS_, h0_, h1_, h2_, h3_, h4_, h5_⟩
              have n0_ : Aside0 (Kd.V (Kd.int .u32) 40 w34 w.heap.size (fun k_ => (P0_1_ k_ ∨ w.heap.size ≤ k_) ∧ k_ ≠ gb282 ∧ k_ ≠ gb287) v296 t295) := ⟨h0_⟩
              have n1_ : Aside0 (Kd.V (Kd.int .u32) 40 w34 w.heap.size (fun k_ => (P0_1_ k_ ∨ w.heap.size ≤ k_) ∧ k_ ≠ gb282 ∧ k_ ≠ gb287) (.slice A0_1 l0_1.length c0_1) l0_1) := ⟨h1_⟩
              have n2_ : Aside0 (Kd.V (Kd.int .u32) 40 w34 w.heap.size (fun k_ => (P0_1_ k_ ∨ w.heap.size ≤ k_) ∧ k_ ≠ gb282 ∧ k_ ≠ gb287) (.slice Ao10 t284.length co10) t284) := ⟨h2_⟩
              have n3_ : Aside0 (w34.heap[gb282]? = some (.cells #[.bool true, .slice A0_1 l0_1.length c0_1] 26 (0, 0))) := ⟨h3_⟩
              have n4_ : Aside0 (w34.heap[gb287]? = some (.cells #[.bool t283, .slice Ao10 t284.length co10] 26 (0, 0))) := ⟨h4_⟩
              have n5_ : Aside0 (Below w.heap.size w w34) := ⟨h5_⟩
              clear HO_283001
              clear HO_288001
              clear BK282
              clear BK287
              clear HB
              clear h0_ h1_ h2_ h3_ h4_ h5_
              have HO297 := n0_
              have HO_283001 := n1_
              have HO_288001 := n2_
              have BK282 := n3_
              have BK287 := n4_
              have HB := n5_
              clear n0_ n1_ n2_ n3_ n4_ n5_
              have hHeld : w34.cell? ⟨gb282, 0, none⟩ = some (.bool true) ∧ w34.cell? ⟨gb282, 1, none⟩ = some (.slice A0_1 l0_1.length c0_1) := hS_
              obtain ⟨Ao35, co35, eo35⟩ := Kd.V_slice HO297.out
              (first | subst eo35 | (injection eo35 with f1_ f2_ f3_; have f4_ := f1_.symm; have f5_ := f3_.symm; clear f1_ f2_ f3_; subst f4_; subst f5_))
              refine norm_ (a' := ?_) ?_ ?_
              rotate_left
              ·
               simp only [putAll, Act.put, s1_, s2_, s3_]
               rfl
              refine three_ (i := 4) (j := 8) (k := 9) (Ni := some 35) (Nj := some 8) (Nk := some 9) #[true, true, true, true, true, false, false, false, false, false, false, false] #[true, true, true, true, false, false, false, false, true, false, false, false] #[true, true, true, true, false, false, false, false, false, true, false, false] rfl rfl rfl rfl rfl rfl (three_of HT_.out (by kernel_rfl)) (by decide) (by decide) (by decide) (fun K hK => ?_) (fun K hK => ?_) (fun K hK => ?_)
              ·
               skip
               refine goes_ Tryd.func8 (by kernel_rfl) rfl #[.agg #[.bool true, .slice A0_1 l0_1.length c0_1], .agg #[.bool t294, .slice Ao35 t295.length co35]] (by rfl) rfl rfl (by (try simp only [List.map_toArray, List.map_cons, List.map_nil]); first | done | rfl | (simp only [List.length_drop, List.length_take]; rfl)) ?_
               with_reducible refine (spec_WideDiv.calls kj3 true _ _ l0_1 t294 _ _ t295 t298 t299 t302 t303 _ ?side1 ?side2 ?side3 ?side4 A29.out).mono ?_
               (case side1 => repeat (first | exact (Kd.V_reads' HO_283001.out).2.2 | (with_reducible refine Kd.C_alloc ?_ _) | (with_reducible refine Kd.C_drewN ?_ _) | (with_reducible refine Kd.C_drew ?_)))
               (case side2 => exact (Kd.V_reads' HO_283001.out).2.1)
               (case side3 => repeat (first | exact (Kd.V_reads' HO297.out).2.2 | (with_reducible refine Kd.C_alloc ?_ _) | (with_reducible refine Kd.C_drewN ?_ _) | (with_reducible refine Kd.C_drew ?_)))
               (case side4 => exact (Kd.V_reads' HO297.out).2.1)
               rintro e w36 ⟨v300, v304, rfl, ho0, ho1, hb⟩
               refine ⟨_, rfl, ?_⟩
               have n0_ := a0_ (Kd.V_below (by (with_reducible repeat (first | apply v1_ | apply v2_ | apply v3_)); exact HO_283001.out) hb)
               have n1_ := a0_ (Kd.V_below (by (with_reducible repeat (first | apply v1_ | apply v2_ | apply v3_)); exact HO_288001.out) hb)
               have n2_ := a0_ (Kd.V_below (by (with_reducible repeat (first | apply v1_ | apply v2_ | apply v3_)); exact HO297.out) hb)
               have n3_ := a0_ (Kd.V_lower (v4_ (ok' := fun k_ => (P0_1_ k_ ∨ w.heap.size ≤ k_) ∧ k_ ≠ gb282 ∧ k_ ≠ gb287) ho0 (fun k_ hk_ => ⟨(.inr (Nat.le_trans (below_size (by repeat (first | (with_reducible first | exact HB.out | apply b1_ | apply b2_ | apply b3_ | refine b4_ ?_ GE282.out | refine b4_ ?_ GE287.out) | exact HB.out))) hk_)), (Kd.freshB (g := gb282) (o := .cells #[.bool true, .slice A0_1 l0_1.length c0_1] 26 (0, 0)) (by (with_reducible repeat (first | refine k1_ ?_ _ | refine k2_ ?_ | refine k3_ ?_ _)); exact BK282.out) k_ hk_), (Kd.freshB (g := gb287) (o := .cells #[.bool t283, .slice Ao10 t284.length co10] 26 (0, 0)) (by (with_reducible repeat (first | refine k1_ ?_ _ | refine k2_ ?_ | refine k3_ ?_ _)); exact BK287.out) k_ hk_)⟩)) (below_size (by repeat (first | (with_reducible first | exact HB.out | apply b1_ | apply b2_ | apply b3_ | refine b4_ ?_ GE282.out | refine b4_ ?_ GE287.out) | exact HB.out))))
               have n4_ := a0_ (Kd.V_lower (v4_ (ok' := fun k_ => (P0_1_ k_ ∨ w.heap.size ≤ k_) ∧ k_ ≠ gb282 ∧ k_ ≠ gb287) ho1 (fun k_ hk_ => ⟨(.inr (Nat.le_trans (below_size (by repeat (first | (with_reducible first | exact HB.out | apply b1_ | apply b2_ | apply b3_ | refine b4_ ?_ GE282.out | refine b4_ ?_ GE287.out) | exact HB.out))) hk_)), (Kd.freshB (g := gb282) (o := .cells #[.bool true, .slice A0_1 l0_1.length c0_1] 26 (0, 0)) (by (with_reducible repeat (first | refine k1_ ?_ _ | refine k2_ ?_ | refine k3_ ?_ _)); exact BK282.out) k_ hk_), (Kd.freshB (g := gb287) (o := .cells #[.bool t283, .slice Ao10 t284.length co10] 26 (0, 0)) (by (with_reducible repeat (first | refine k1_ ?_ _ | refine k2_ ?_ | refine k3_ ?_ _)); exact BK287.out) k_ hk_)⟩)) (below_size (by repeat (first | (with_reducible first | exact HB.out | apply b1_ | apply b2_ | apply b3_ | refine b4_ ?_ GE282.out | refine b4_ ?_ GE287.out) | exact HB.out))))
               have n5_ := a0_ (blk_below (g := gb282) (o := .cells #[.bool true, .slice A0_1 l0_1.length c0_1] 26 (0, 0)) (by (with_reducible repeat (first | refine k1_ ?_ _ | refine k2_ ?_ | refine k3_ ?_ _)); exact BK282.out) hb)
               have n6_ := a0_ (blk_below (g := gb287) (o := .cells #[.bool t283, .slice Ao10 t284.length co10] 26 (0, 0)) (by (with_reducible repeat (first | refine k1_ ?_ _ | refine k2_ ?_ | refine k3_ ?_ _)); exact BK287.out) hb)
               have n7_ := a0_ (below_step (by repeat (first | (with_reducible first | exact HB.out | apply b1_ | apply b2_ | apply b3_ | refine b4_ ?_ GE282.out | refine b4_ ?_ GE287.out) | exact HB.out)) hb)
               clear HO_283001
               clear HO_288001
               clear HO297
               clear BK282
               clear BK287
               clear HB
               have HO_283001 := n0_
               have HO_288001 := n1_
               have HO297 := n2_
               have HO301 := n3_
               have HO305 := n4_
               have BK282 := n5_
               have BK287 := n6_
               have HB := n7_
               clear n0_ n1_ n2_ n3_ n4_ n5_ n6_ n7_
               (try clear hb)
               (try clear hb2)
               (try clear hk)
               (try clear hi)
               (try clear ho0)
               (try clear ho1)
               refine hK.out _ _ ⟨(blk_cell BK282.out 0).trans rfl, (blk_cell BK282.out 1).trans rfl⟩ (fun hHeld => ?_)
               clear hK K
               refine norm_ (a' := ?_) ?_ ?_
               rotate_left
               ·
                show Act.put _ (some 35) _ = _
                simp only [Act.put, s1_, s2_, s3_, i64_w, i32_w]
                rfl
               refine pure_ (i := 5) (N := some 30) (v := ?_) (a' := ?_) #[true, true, true, true, true, true, false, false, false, false, false, false] rfl rfl (any_of HT_.out (by kernel_rfl)) (fun _ _ _ h => h) (Or.inl ⟨by rfl, ?_⟩) ?_ ?_
               rotate_left
               ·
                intro w'
                go_simp
                with_reducible rfl
               rotate_left
               ·
                simp only [Act.put, s1_, s2_, s3_, i64_w, i32_w]
                rfl
               refine pure_ (i := 6) (N := some 36) (v := ?_) (a' := ?_) #[true, true, true, true, true, true, true, false, false, false, false, false] rfl rfl (any_of HT_.out (by kernel_rfl)) (fun _ _ _ h => h) (Or.inl ⟨by rfl, ?_⟩) ?_ ?_
               rotate_left
               ·
                intro w'
                go_simp
                with_reducible rfl
               rotate_left
               ·
                simp only [Act.put, s1_, s2_, s3_, i64_w, i32_w]
                rfl
               refine pure_ (i := 7) (N := some 37) (v := ?_) (a' := ?_) #[true, true, true, true, true, true, true, true, false, false, false, false] rfl rfl (any_of HT_.out (by kernel_rfl)) (fun _ _ _ h => h) (Or.inl ⟨by rfl, ?_⟩) ?_ ?_
               rotate_left
               ·
                intro w'
                go_simp
                with_reducible rfl
               rotate_left
               ·
                simp only [Act.put, s1_, s2_, s3_, i64_w, i32_w]
                rfl
               exact norm_ (by first | (simp only [putAll, Act.put, s1_, s2_, s3_]; done) | (simp only [putAll, Act.put, s1_, s2_, s3_]; rfl)) (hJ3_4 (.slice Ao35 t295.length co35, v300, v304) _ ⟨hHeld, (by (with_reducible repeat (first | apply v1_ | apply v2_ | apply v3_)); exact HO297.out), (by (with_reducible repeat (first | apply v1_ | apply v2_ | apply v3_)); exact HO301.out), (by (with_reducible repeat (first | apply v1_ | apply v2_ | apply v3_)); exact HO305.out), (by (with_reducible repeat (first | apply v1_ | apply v2_ | apply v3_)); exact HO_283001.out), (by (with_reducible repeat (first | apply v1_ | apply v2_ | apply v3_)); exact HO_288001.out), (by (with_reducible repeat (first | refine k1_ ?_ _ | refine k2_ ?_ | refine k3_ ?_ _)); exact BK282.out), (by (with_reducible repeat (first | refine k1_ ?_ _ | refine k2_ ?_ | refine k3_ ?_ _)); exact BK287.out), (by repeat (first | (with_reducible first | exact HB.out | apply b1_ | apply b2_ | apply b3_ | refine b4_ ?_ GE282.out | refine b4_ ?_ GE287.out) | exact HB.out))⟩)
              ·
               skip
               refine box_step ?hg (N := 8) ?hd (cs := #[.bool false, .slice none 0 0]) (t := 26) ?hr ?_; (case hd => rfl); (case hg => rfl); (case hr => first | (go_simp; done) | (go_simp; rfl))
               intro gb306 hg w35 hbox hb
               have n0_ := a0_ (Kd.V_below (Kd.V_elderB (by (with_reducible repeat (first | apply v1_ | apply v2_ | apply v3_)); exact HO_283001.out) gb306 (Nat.le_of_eq hg.symm)) hb)
               have n1_ := a0_ (Kd.V_below (Kd.V_elderB (by (with_reducible repeat (first | apply v1_ | apply v2_ | apply v3_)); exact HO_288001.out) gb306 (Nat.le_of_eq hg.symm)) hb)
               have n2_ := a0_ (Kd.V_below (Kd.V_elderB (by (with_reducible repeat (first | apply v1_ | apply v2_ | apply v3_)); exact HO297.out) gb306 (Nat.le_of_eq hg.symm)) hb)
               have n3_ := a0_ (blk_below (g := gb282) (o := .cells #[.bool true, .slice A0_1 l0_1.length c0_1] 26 (0, 0)) (by (with_reducible repeat (first | refine k1_ ?_ _ | refine k2_ ?_ | refine k3_ ?_ _)); exact BK282.out) hb)
               have n4_ := a0_ (blk_below (g := gb287) (o := .cells #[.bool t283, .slice Ao10 t284.length co10] 26 (0, 0)) (by (with_reducible repeat (first | refine k1_ ?_ _ | refine k2_ ?_ | refine k3_ ?_ _)); exact BK287.out) hb)
               have n5_ := a0_ (below_step (by repeat (first | (with_reducible first | exact HB.out | apply b1_ | apply b2_ | apply b3_ | refine b4_ ?_ GE282.out | refine b4_ ?_ GE287.out) | exact HB.out)) hb)
               have n6_ := a0_ (hbox)
               have n7_ := a0_ ((by rw [hg]; exact (below_size (by repeat (first | (with_reducible first | exact HB.out | apply b1_ | apply b2_ | apply b3_ | refine b4_ ?_ GE282.out | refine b4_ ?_ GE287.out) | exact HB.out))) : w.heap.size ≤ gb306))
               have n8_ := a0_ ((by rw [hg]; exact (below_size (by repeat (first | (with_reducible first | exact HB.out | apply b1_ | apply b2_ | apply b3_ | refine b4_ ?_ GE282.out | refine b4_ ?_ GE287.out) | exact HB.out))) : w.heap.size ≤ gb306))
               have n9_ := a0_ ((by rw [hg]; exact Nat.ne_of_lt (blk_lt (g := gb282) (o := .cells #[.bool true, .slice A0_1 l0_1.length c0_1] 26 (0, 0)) (by (with_reducible repeat (first | refine k1_ ?_ _ | refine k2_ ?_ | refine k3_ ?_ _)); exact BK282.out)) : gb282 ≠ gb306))
               have n10_ := a0_ ((by rw [hg]; exact Nat.ne_of_gt (blk_lt (g := gb282) (o := .cells #[.bool true, .slice A0_1 l0_1.length c0_1] 26 (0, 0)) (by (with_reducible repeat (first | refine k1_ ?_ _ | refine k2_ ?_ | refine k3_ ?_ _)); exact BK282.out)) : gb306 ≠ gb282))
               have n11_ := a0_ ((by rw [hg]; exact Nat.ne_of_lt (blk_lt (g := gb287) (o := .cells #[.bool t283, .slice Ao10 t284.length co10] 26 (0, 0)) (by (with_reducible repeat (first | refine k1_ ?_ _ | refine k2_ ?_ | refine k3_ ?_ _)); exact BK287.out)) : gb287 ≠ gb306))
               have n12_ := a0_ ((by rw [hg]; exact Nat.ne_of_gt (blk_lt (g := gb287) (o := .cells #[.bool t283, .slice Ao10 t284.length co10] 26 (0, 0)) (by (with_reducible repeat (first | refine k1_ ?_ _ | refine k2_ ?_ | refine k3_ ?_ _)); exact BK287.out)) : gb306 ≠ gb287))
               clear HO_283001
               clear HO_288001
               clear HO297
               clear BK282
               clear BK287
               clear HB
               have HO_283001 := n0_
               have HO_288001 := n1_
               have HO297 := n2_
               have BK282 := n3_
               have BK287 := n4_
               have HB := n5_
               have BK306 := n6_
               have GW306 := n7_
               have GE306 := n8_
               have NB282_306 := n9_
               have NB306_282 := n10_
               have NB287_306 := n11_
               have NB306_287 := n12_
               clear n0_ n1_ n2_ n3_ n4_ n5_ n6_ n7_ n8_ n9_ n10_ n11_ n12_
               clear hb hbox hg
               refine hK.out _ _ ⟨(blk_cell BK282.out 0).trans rfl, (blk_cell BK282.out 1).trans rfl⟩ (fun hHeld => ?_)
               clear hK K
               refine norm_ (a' := ?_) ?_ ?_
               rotate_left
               ·
                show Act.put _ (some 8) _ = _
                simp only [Act.put, s1_, s2_, s3_, i64_w, i32_w]
                rfl
               exact norm_ (by first | (simp only [putAll, Act.put, s1_, s2_, s3_]; done) | (simp only [putAll, Act.put, s1_, s2_, s3_]; rfl)) (hJ3_8 ((.slice Ao35 t295.length co35), gb306) _ ⟨hHeld, (by (with_reducible repeat (first | apply v1_ | apply v2_ | apply v3_)); exact v4_ HO297.out (fun _ hk => ⟨hk.1.1, ⟨hk.1.2.1, ⟨hk.1.2.2, hk.2⟩⟩⟩)), (by (with_reducible repeat (first | apply v1_ | apply v2_ | apply v3_)); exact v4_ HO_283001.out (fun _ hk => ⟨hk.1.1, ⟨hk.1.2.1, ⟨hk.1.2.2, hk.2⟩⟩⟩)), (by (with_reducible repeat (first | apply v1_ | apply v2_ | apply v3_)); exact v4_ HO_288001.out (fun _ hk => ⟨hk.1.1, ⟨hk.1.2.1, ⟨hk.1.2.2, hk.2⟩⟩⟩)), (by (with_reducible repeat (first | refine k1_ ?_ _ | refine k2_ ?_ | refine k3_ ?_ _)); exact BK282.out), (by (with_reducible repeat (first | refine k1_ ?_ _ | refine k2_ ?_ | refine k3_ ?_ _)); exact BK287.out), (by (with_reducible repeat (first | refine k1_ ?_ _ | refine k2_ ?_ | refine k3_ ?_ _)); exact BK306.out), GW306.out, GE306.out, NB282_306.out, NB306_282.out, NB287_306.out, NB306_287.out, (by repeat (first | (with_reducible first | exact HB.out | apply b1_ | apply b2_ | apply b3_ | refine b4_ ?_ GE282.out | refine b4_ ?_ GE287.out | refine b4_ ?_ GE306.out) | exact HB.out))⟩)
              ·
               skip
               refine box_step ?hg (N := 9) ?hd (cs := #[.bool false, .slice none 0 0]) (t := 26) ?hr ?_; (case hd => rfl); (case hg => rfl); (case hr => first | (go_simp; done) | (go_simp; rfl))
               intro gb307 hg w35 hbox hb
               have n0_ := a0_ (Kd.V_below (Kd.V_elderB (by (with_reducible repeat (first | apply v1_ | apply v2_ | apply v3_)); exact HO_283001.out) gb307 (Nat.le_of_eq hg.symm)) hb)
               have n1_ := a0_ (Kd.V_below (Kd.V_elderB (by (with_reducible repeat (first | apply v1_ | apply v2_ | apply v3_)); exact HO_288001.out) gb307 (Nat.le_of_eq hg.symm)) hb)
               have n2_ := a0_ (Kd.V_below (Kd.V_elderB (by (with_reducible repeat (first | apply v1_ | apply v2_ | apply v3_)); exact HO297.out) gb307 (Nat.le_of_eq hg.symm)) hb)
               have n3_ := a0_ (blk_below (g := gb282) (o := .cells #[.bool true, .slice A0_1 l0_1.length c0_1] 26 (0, 0)) (by (with_reducible repeat (first | refine k1_ ?_ _ | refine k2_ ?_ | refine k3_ ?_ _)); exact BK282.out) hb)
               have n4_ := a0_ (blk_below (g := gb287) (o := .cells #[.bool t283, .slice Ao10 t284.length co10] 26 (0, 0)) (by (with_reducible repeat (first | refine k1_ ?_ _ | refine k2_ ?_ | refine k3_ ?_ _)); exact BK287.out) hb)
               have n5_ := a0_ (below_step (by repeat (first | (with_reducible first | exact HB.out | apply b1_ | apply b2_ | apply b3_ | refine b4_ ?_ GE282.out | refine b4_ ?_ GE287.out) | exact HB.out)) hb)
               have n6_ := a0_ (hbox)
               have n7_ := a0_ ((by rw [hg]; exact (below_size (by repeat (first | (with_reducible first | exact HB.out | apply b1_ | apply b2_ | apply b3_ | refine b4_ ?_ GE282.out | refine b4_ ?_ GE287.out) | exact HB.out))) : w.heap.size ≤ gb307))
               have n8_ := a0_ ((by rw [hg]; exact (below_size (by repeat (first | (with_reducible first | exact HB.out | apply b1_ | apply b2_ | apply b3_ | refine b4_ ?_ GE282.out | refine b4_ ?_ GE287.out) | exact HB.out))) : w.heap.size ≤ gb307))
               have n9_ := a0_ ((by rw [hg]; exact Nat.ne_of_lt (blk_lt (g := gb282) (o := .cells #[.bool true, .slice A0_1 l0_1.length c0_1] 26 (0, 0)) (by (with_reducible repeat (first | refine k1_ ?_ _ | refine k2_ ?_ | refine k3_ ?_ _)); exact BK282.out)) : gb282 ≠ gb307))
               have n10_ := a0_ ((by rw [hg]; exact Nat.ne_of_gt (blk_lt (g := gb282) (o := .cells #[.bool true, .slice A0_1 l0_1.length c0_1] 26 (0, 0)) (by (with_reducible repeat (first | refine k1_ ?_ _ | refine k2_ ?_ | refine k3_ ?_ _)); exact BK282.out)) : gb307 ≠ gb282))
               have n11_ := a0_ ((by rw [hg]; exact Nat.ne_of_lt (blk_lt (g := gb287) (o := .cells #[.bool t283, .slice Ao10 t284.length co10] 26 (0, 0)) (by (with_reducible repeat (first | refine k1_ ?_ _ | refine k2_ ?_ | refine k3_ ?_ _)); exact BK287.out)) : gb287 ≠ gb307))
               have n12_ := a0_ ((by rw [hg]; exact Nat.ne_of_gt (blk_lt (g := gb287) (o := .cells #[.bool t283, .slice Ao10 t284.length co10] 26 (0, 0)) (by (with_reducible repeat (first | refine k1_ ?_ _ | refine k2_ ?_ | refine k3_ ?_ _)); exact BK287.out)) : gb307 ≠ gb287))
               clear HO_283001
               clear HO_288001
               clear HO297
               clear BK282
               clear BK287
               clear HB
               have HO_283001 := n0_
               have HO_288001 := n1_
               have HO297 := n2_
               have BK282 := n3_
               have BK287 := n4_
               have HB := n5_
               have BK307 := n6_
               have GW307 := n7_
               have GE307 := n8_
               have NB282_307 := n9_
               have NB307_282 := n10_
               have NB287_307 := n11_
               have NB307_287 := n12_
               clear n0_ n1_ n2_ n3_ n4_ n5_ n6_ n7_ n8_ n9_ n10_ n11_ n12_
               clear hb hbox hg
               refine hK.out _ _ ⟨(blk_cell BK282.out 0).trans rfl, (blk_cell BK282.out 1).trans rfl⟩ (fun hHeld => ?_)
               clear hK K
               refine norm_ (a' := ?_) ?_ ?_
               rotate_left
               ·
                show Act.put _ (some 9) _ = _
                simp only [Act.put, s1_, s2_, s3_, i64_w, i32_w]
                rfl
               exact norm_ (by first | (simp only [putAll, Act.put, s1_, s2_, s3_]; done) | (simp only [putAll, Act.put, s1_, s2_, s3_]; rfl)) (hJ3_9 ((.slice Ao35 t295.length co35), gb307) _ ⟨hHeld, (by (with_reducible repeat (first | apply v1_ | apply v2_ | apply v3_)); exact v4_ HO297.out (fun _ hk => ⟨hk.1.1, ⟨hk.1.2.1, ⟨hk.1.2.2, hk.2⟩⟩⟩)), (by (with_reducible repeat (first | apply v1_ | apply v2_ | apply v3_)); exact v4_ HO_283001.out (fun _ hk => ⟨hk.1.1, ⟨hk.1.2.1, ⟨hk.1.2.2, hk.2⟩⟩⟩)), (by (with_reducible repeat (first | apply v1_ | apply v2_ | apply v3_)); exact v4_ HO_288001.out (fun _ hk => ⟨hk.1.1, ⟨hk.1.2.1, ⟨hk.1.2.2, hk.2⟩⟩⟩)), (by (with_reducible repeat (first | refine k1_ ?_ _ | refine k2_ ?_ | refine k3_ ?_ _)); exact BK282.out), (by (with_reducible repeat (first | refine k1_ ?_ _ | refine k2_ ?_ | refine k3_ ?_ _)); exact BK287.out), (by (with_reducible repeat (first | refine k1_ ?_ _ | refine k2_ ?_ | refine k3_ ?_ _)); exact BK307.out), GW307.out, GE307.out, NB282_307.out, NB307_282.out, NB287_307.out, NB307_287.out, (by repeat (first | (with_reducible first | exact HB.out | apply b1_ | apply b2_ | apply b3_ | refine b4_ ?_ GE282.out | refine b4_ ?_ GE287.out | refine b4_ ?_ GE307.out) | exact HB.out))⟩)
            ·
             skip
             rintro ⟨gb306, gb307⟩ w35 ⟨hS_, h0_, h1_, h2_, h3_, h4_, h5_, h6_, h7_, h8_, h9_, h10_, h11_, h12_, h13_, h14_, h15_, h16_, h17_, h18_, h19_, h20_⟩
             have n0_ : Aside0 (Kd.V (Kd.int .u32) 40 w35 w.heap.size (fun k_ => (P0_1_ k_ ∨ w.heap.size ≤ k_) ∧ k_ ≠ gb282 ∧ k_ ≠ gb287 ∧ k_ ≠ gb306 ∧ k_ ≠ gb307) (.slice A0_1 l0_1.length c0_1) l0_1) := ⟨h0_⟩
             have n1_ : Aside0 (Kd.V (Kd.int .u32) 40 w35 w.heap.size (fun k_ => (P0_1_ k_ ∨ w.heap.size ≤ k_) ∧ k_ ≠ gb282 ∧ k_ ≠ gb287 ∧ k_ ≠ gb306 ∧ k_ ≠ gb307) (.slice Ao10 t284.length co10) t284) := ⟨h1_⟩
             have n2_ : Aside0 (w35.heap[gb282]? = some (.cells #[.bool true, .slice A0_1 l0_1.length c0_1] 26 (0, 0))) := ⟨h2_⟩
             have n3_ : Aside0 (w35.heap[gb287]? = some (.cells #[.bool t283, .slice Ao10 t284.length co10] 26 (0, 0))) := ⟨h3_⟩
             have n4_ : Aside0 (w35.heap[gb306]? = some (.cells #[.bool false, .slice none 0 0] 26 (0, 0))) := ⟨h4_⟩
             have n5_ : Aside0 (w35.heap[gb307]? = some (.cells #[.bool false, .slice none 0 0] 26 (0, 0))) := ⟨h5_⟩
             have n6_ : Aside0 (w.heap.size ≤ gb306) := ⟨h6_⟩
             have n7_ : Aside0 (w.heap.size ≤ gb306) := ⟨h7_⟩
             have n8_ : Aside0 (gb282 ≠ gb306) := ⟨h8_⟩
             have n9_ : Aside0 (gb306 ≠ gb282) := ⟨h9_⟩
             have n10_ : Aside0 (gb287 ≠ gb306) := ⟨h10_⟩
             have n11_ : Aside0 (gb306 ≠ gb287) := ⟨h11_⟩
             have n12_ : Aside0 (gb307 ≠ gb306) := ⟨h12_⟩
             have n13_ : Aside0 (gb306 ≠ gb307) := ⟨h13_⟩
             have n14_ : Aside0 (w.heap.size ≤ gb307) := ⟨h14_⟩
             have n15_ : Aside0 (w.heap.size ≤ gb307) := ⟨h15_⟩
             have n16_ : Aside0 (gb282 ≠ gb307) := ⟨h16_⟩
             have n17_ : Aside0 (gb307 ≠ gb282) := ⟨h17_⟩
             have n18_ : Aside0 (gb287 ≠ gb307) := ⟨h18_⟩
             have n19_ : Aside0 (gb307 ≠ gb287) := ⟨h19_⟩
             have n20_ : Aside0 (Below w.heap.size w w35) := ⟨h20_⟩
             clear HO_283001
             clear HO_288001
             clear BK282
             clear BK287
             clear HB
             clear h0_ h1_ h2_ h3_ h4_ h5_ h6_ h7_ h8_ h9_ h10_ h11_ h12_ h13_ h14_ h15_ h16_ h17_ h18_ h19_ h20_
             have HO_283001 := n0_
             have HO_288001 := n1_
             have BK282 := n2_
             have BK287 := n3_
             have BK306 := n4_
             have BK307 := n5_
             have GW306 := n6_
             have GE306 := n7_
             have NB282_306 := n8_
             have NB306_282 := n9_
             have NB287_306 := n10_
             have NB306_287 := n11_
             have NB307_306 := n12_
             have NB306_307 := n13_
             have GW307 := n14_
             have GE307 := n15_
             have NB282_307 := n16_
             have NB307_282 := n17_
             have NB287_307 := n18_
             have NB307_287 := n19_
             have HB := n20_
             clear n0_ n1_ n2_ n3_ n4_ n5_ n6_ n7_ n8_ n9_ n10_ n11_ n12_ n13_ n14_ n15_ n16_ n17_ n18_ n19_ n20_
             have hHeld : w35.cell? ⟨gb282, 0, none⟩ = some (.bool true) ∧ w35.cell? ⟨gb282, 1, none⟩ = some (.slice A0_1 l0_1.length c0_1) := hS_
             refine norm_ (a' := ?_) ?_ ?_
             rotate_left
             ·
              simp only [putAll, Act.put, s1_, s2_, s3_]
              rfl
             refine one_ (i := 3) (N := some 34) #[true, true, true, true, false, false, false, false, true, true, false, false] rfl rfl (one_of HT_.out (by kernel_rfl)) (by decide) (fun K hK => ?_)
             refine goes_ Tryd.func15 (by kernel_rfl) rfl #[.int .i64 (wrap64 (64 * a1))] (by rfl) rfl rfl (by (try simp only [List.map_toArray, List.map_cons, List.map_nil]); first | done | rfl | (simp only [List.length_drop, List.length_take]; rfl)) ?_
             with_reducible refine (spec_Two.calls kj3 (wrap64 (64 * a1)) t294 t295 _ A28.out).mono ?_
             rintro e w36 ⟨v296, rfl, ho0, hb⟩
             refine ⟨_, rfl, ?_⟩
             have n0_ := a0_ (Kd.V_below (by (with_reducible repeat (first | apply v1_ | apply v2_ | apply v3_)); exact HO_283001.out) hb)
             have n1_ := a0_ (Kd.V_below (by (with_reducible repeat (first | apply v1_ | apply v2_ | apply v3_)); exact HO_288001.out) hb)
             have n2_ := a0_ (Kd.V_lower (v4_ (ok' := fun k_ => (P0_1_ k_ ∨ w.heap.size ≤ k_) ∧ k_ ≠ gb282 ∧ k_ ≠ gb287 ∧ k_ ≠ gb306 ∧ k_ ≠ gb307) ho0 (fun k_ hk_ => ⟨(.inr (Nat.le_trans (below_size (by repeat (first | (with_reducible first | exact HB.out | apply b1_ | apply b2_ | apply b3_ | refine b4_ ?_ GE282.out | refine b4_ ?_ GE287.out | refine b4_ ?_ GE306.out | refine b4_ ?_ GE307.out) | exact HB.out))) hk_)), (Kd.freshB (g := gb282) (o := .cells #[.bool true, .slice A0_1 l0_1.length c0_1] 26 (0, 0)) (by (with_reducible repeat (first | refine k1_ ?_ _ | refine k2_ ?_ | refine k3_ ?_ _)); exact BK282.out) k_ hk_), (Kd.freshB (g := gb287) (o := .cells #[.bool t283, .slice Ao10 t284.length co10] 26 (0, 0)) (by (with_reducible repeat (first | refine k1_ ?_ _ | refine k2_ ?_ | refine k3_ ?_ _)); exact BK287.out) k_ hk_), (Kd.freshB (g := gb306) (o := .cells #[.bool false, .slice none 0 0] 26 (0, 0)) (by (with_reducible repeat (first | refine k1_ ?_ _ | refine k2_ ?_ | refine k3_ ?_ _)); exact BK306.out) k_ hk_), (Kd.freshB (g := gb307) (o := .cells #[.bool false, .slice none 0 0] 26 (0, 0)) (by (with_reducible repeat (first | refine k1_ ?_ _ | refine k2_ ?_ | refine k3_ ?_ _)); exact BK307.out) k_ hk_)⟩)) (below_size (by repeat (first | (with_reducible first | exact HB.out | apply b1_ | apply b2_ | apply b3_ | refine b4_ ?_ GE282.out | refine b4_ ?_ GE287.out | refine b4_ ?_ GE306.out | refine b4_ ?_ GE307.out) | exact HB.out))))
             have n3_ := a0_ (blk_below (g := gb282) (o := .cells #[.bool true, .slice A0_1 l0_1.length c0_1] 26 (0, 0)) (by (with_reducible repeat (first | refine k1_ ?_ _ | refine k2_ ?_ | refine k3_ ?_ _)); exact BK282.out) hb)
             have n4_ := a0_ (blk_below (g := gb287) (o := .cells #[.bool t283, .slice Ao10 t284.length co10] 26 (0, 0)) (by (with_reducible repeat (first | refine k1_ ?_ _ | refine k2_ ?_ | refine k3_ ?_ _)); exact BK287.out) hb)
             have n5_ := a0_ (blk_below (g := gb306) (o := .cells #[.bool false, .slice none 0 0] 26 (0, 0)) (by (with_reducible repeat (first | refine k1_ ?_ _ | refine k2_ ?_ | refine k3_ ?_ _)); exact BK306.out) hb)
             have n6_ := a0_ (blk_below (g := gb307) (o := .cells #[.bool false, .slice none 0 0] 26 (0, 0)) (by (with_reducible repeat (first | refine k1_ ?_ _ | refine k2_ ?_ | refine k3_ ?_ _)); exact BK307.out) hb)
             have n7_ := a0_ (below_step (by repeat (first | (with_reducible first | exact HB.out | apply b1_ | apply b2_ | apply b3_ | refine b4_ ?_ GE282.out | refine b4_ ?_ GE287.out | refine b4_ ?_ GE306.out | refine b4_ ?_ GE307.out) | exact HB.out)) hb)
             clear HO_283001
             clear HO_288001
             clear BK282
             clear BK287
             clear BK306
             clear BK307
             clear HB
             have HO_283001 := n0_
             have HO_288001 := n1_
             have HO297 := n2_
             have BK282 := n3_
             have BK287 := n4_
             have BK306 := n5_
             have BK307 := n6_
             have HB := n7_
             clear n0_ n1_ n2_ n3_ n4_ n5_ n6_ n7_
             (try clear hb)
             (try clear hb2)
             (try clear hk)
             (try clear hi)
             (try clear ho0)
             refine hK.out _ _ ⟨(blk_cell BK282.out 0).trans rfl, (blk_cell BK282.out 1).trans rfl⟩ (fun hHeld => ?_)
             clear hK K
             refine norm_ (a' := ?_) ?_ ?_
             rotate_left
             ·
              show Act.put _ (some 34) _ = _
              simp only [Act.put, s1_, s2_, s3_, i64_w, i32_w]
              rfl
             exact norm_ (by first | (simp only [putAll, Act.put, s1_, s2_, s3_]; done) | (simp only [putAll, Act.put, s1_, s2_, s3_]; rfl)) (hJ3_8_9 (v296, gb306, gb307) _ ⟨hHeld, (by (with_reducible repeat (first | apply v1_ | apply v2_ | apply v3_)); exact HO297.out), (by (with_reducible repeat (first | apply v1_ | apply v2_ | apply v3_)); exact HO_283001.out), (by (with_reducible repeat (first | apply v1_ | apply v2_ | apply v3_)); exact HO_288001.out), (by (with_reducible repeat (first | refine k1_ ?_ _ | refine k2_ ?_ | refine k3_ ?_ _)); exact BK282.out), (by (with_reducible repeat (first | refine k1_ ?_ _ | refine k2_ ?_ | refine k3_ ?_ _)); exact BK287.out), (by (with_reducible repeat (first | refine k1_ ?_ _ | refine k2_ ?_ | refine k3_ ?_ _)); exact BK306.out), (by (with_reducible repeat (first | refine k1_ ?_ _ | refine k2_ ?_ | refine k3_ ?_ _)); exact BK307.out), GW306.out, GE306.out, NB282_306.out, NB306_282.out, NB287_306.out, NB306_287.out, NB307_306.out, NB306_307.out, GW307.out, GE307.out, NB282_307.out, NB307_282.out, NB287_307.out, NB307_287.out, (by repeat (first | (with_reducible first | exact HB.out | apply b1_ | apply b2_ | apply b3_ | refine b4_ ?_ GE282.out | refine b4_ ?_ GE287.out | refine b4_ ?_ GE306.out | refine b4_ ?_ GE307.out) | exact HB.out))⟩)
           ·
            skip
            rintro ⟨v296, gb307⟩ w35 ⟨hS_, h0_, h1_, h2_, h3_, h4_, h5_, h6_, h7_, h8_, h9_, h10_, h11_, h12_⟩
            have n0_ : Aside0 (Kd.V (Kd.int .u32) 40 w35 w.heap.size (fun k_ => (P0_1_ k_ ∨ w.heap.size ≤ k_) ∧ k_ ≠ gb282 ∧ k_ ≠ gb287 ∧ k_ ≠ gb307) v296 t295) := ⟨h0_⟩
            have n1_ : Aside0 (Kd.V (Kd.int .u32) 40 w35 w.heap.size (fun k_ => (P0_1_ k_ ∨ w.heap.size ≤ k_) ∧ k_ ≠ gb282 ∧ k_ ≠ gb287 ∧ k_ ≠ gb307) (.slice A0_1 l0_1.length c0_1) l0_1) := ⟨h1_⟩
            have n2_ : Aside0 (Kd.V (Kd.int .u32) 40 w35 w.heap.size (fun k_ => (P0_1_ k_ ∨ w.heap.size ≤ k_) ∧ k_ ≠ gb282 ∧ k_ ≠ gb287 ∧ k_ ≠ gb307) (.slice Ao10 t284.length co10) t284) := ⟨h2_⟩
            have n3_ : Aside0 (w35.heap[gb282]? = some (.cells #[.bool true, .slice A0_1 l0_1.length c0_1] 26 (0, 0))) := ⟨h3_⟩
            have n4_ : Aside0 (w35.heap[gb287]? = some (.cells #[.bool t283, .slice Ao10 t284.length co10] 26 (0, 0))) := ⟨h4_⟩
            have n5_ : Aside0 (w35.heap[gb307]? = some (.cells #[.bool false, .slice none 0 0] 26 (0, 0))) := ⟨h5_⟩
            have n6_ : Aside0 (w.heap.size ≤ gb307) := ⟨h6_⟩
            have n7_ : Aside0 (w.heap.size ≤ gb307) := ⟨h7_⟩
            have n8_ : Aside0 (gb282 ≠ gb307) := ⟨h8_⟩
            have n9_ : Aside0 (gb307 ≠ gb282) := ⟨h9_⟩
            have n10_ : Aside0 (gb287 ≠ gb307) := ⟨h10_⟩
            have n11_ : Aside0 (gb307 ≠ gb287) := ⟨h11_⟩
            have n12_ : Aside0 (Below w.heap.size w w35) := ⟨h12_⟩
            clear HO_283001
            clear HO_288001
            clear BK282
            clear BK287
            clear HB
            clear h0_ h1_ h2_ h3_ h4_ h5_ h6_ h7_ h8_ h9_ h10_ h11_ h12_
            have HO297 := n0_
            have HO_283001 := n1_
            have HO_288001 := n2_
            have BK282 := n3_
            have BK287 := n4_
            have BK307 := n5_
            have GW307 := n6_
            have GE307 := n7_
            have NB282_307 := n8_
            have NB307_282 := n9_
            have NB287_307 := n10_
            have NB307_287 := n11_
            have HB := n12_
            clear n0_ n1_ n2_ n3_ n4_ n5_ n6_ n7_ n8_ n9_ n10_ n11_ n12_
            have hHeld : w35.cell? ⟨gb282, 0, none⟩ = some (.bool true) ∧ w35.cell? ⟨gb282, 1, none⟩ = some (.slice A0_1 l0_1.length c0_1) := hS_
            obtain ⟨Ao36, co36, eo36⟩ := Kd.V_slice HO297.out
            (first | subst eo36 | (injection eo36 with f1_ f2_ f3_; have f4_ := f1_.symm; have f5_ := f3_.symm; clear f1_ f2_ f3_; subst f4_; subst f5_))
            refine norm_ (a' := ?_) ?_ ?_
            rotate_left
            ·
             simp only [putAll, Act.put, s1_, s2_, s3_]
             rfl
            refine two_ (i := 4) (j := 8) (Ni := some 35) (Nj := some 8) #[true, true, true, true, true, false, false, false, false, true, false, false] #[true, true, true, true, false, false, false, false, true, true, false, false] rfl rfl rfl rfl (two_of HT_.out (by kernel_rfl)) (by decide) (by decide) (fun K hK => ?_) (fun K hK => ?_)
            ·
             skip
             refine goes_ Tryd.func8 (by kernel_rfl) rfl #[.agg #[.bool true, .slice A0_1 l0_1.length c0_1], .agg #[.bool t294, .slice Ao36 t295.length co36]] (by rfl) rfl rfl (by (try simp only [List.map_toArray, List.map_cons, List.map_nil]); first | done | rfl | (simp only [List.length_drop, List.length_take]; rfl)) ?_
             with_reducible refine (spec_WideDiv.calls kj3 true _ _ l0_1 t294 _ _ t295 t298 t299 t302 t303 _ ?side1 ?side2 ?side3 ?side4 A29.out).mono ?_
             (case side1 => repeat (first | exact (Kd.V_reads' HO_283001.out).2.2 | (with_reducible refine Kd.C_alloc ?_ _) | (with_reducible refine Kd.C_drewN ?_ _) | (with_reducible refine Kd.C_drew ?_)))
             (case side2 => exact (Kd.V_reads' HO_283001.out).2.1)
             (case side3 => repeat (first | exact (Kd.V_reads' HO297.out).2.2 | (with_reducible refine Kd.C_alloc ?_ _) | (with_reducible refine Kd.C_drewN ?_ _) | (with_reducible refine Kd.C_drew ?_)))
             (case side4 => exact (Kd.V_reads' HO297.out).2.1)
             rintro e w37 ⟨v300, v304, rfl, ho0, ho1, hb⟩
             refine ⟨_, rfl, ?_⟩
             have n0_ := a0_ (Kd.V_below (by (with_reducible repeat (first | apply v1_ | apply v2_ | apply v3_)); exact HO_283001.out) hb)
             have n1_ := a0_ (Kd.V_below (by (with_reducible repeat (first | apply v1_ | apply v2_ | apply v3_)); exact HO_288001.out) hb)
             have n2_ := a0_ (Kd.V_below (by (with_reducible repeat (first | apply v1_ | apply v2_ | apply v3_)); exact HO297.out) hb)
             have n3_ := a0_ (Kd.V_lower (v4_ (ok' := fun k_ => (P0_1_ k_ ∨ w.heap.size ≤ k_) ∧ k_ ≠ gb282 ∧ k_ ≠ gb287 ∧ k_ ≠ gb307) ho0 (fun k_ hk_ => ⟨(.inr (Nat.le_trans (below_size (by repeat (first | (with_reducible first | exact HB.out | apply b1_ | apply b2_ | apply b3_ | refine b4_ ?_ GE282.out | refine b4_ ?_ GE287.out | refine b4_ ?_ GE307.out) | exact HB.out))) hk_)), (Kd.freshB (g := gb282) (o := .cells #[.bool true, .slice A0_1 l0_1.length c0_1] 26 (0, 0)) (by (with_reducible repeat (first | refine k1_ ?_ _ | refine k2_ ?_ | refine k3_ ?_ _)); exact BK282.out) k_ hk_), (Kd.freshB (g := gb287) (o := .cells #[.bool t283, .slice Ao10 t284.length co10] 26 (0, 0)) (by (with_reducible repeat (first | refine k1_ ?_ _ | refine k2_ ?_ | refine k3_ ?_ _)); exact BK287.out) k_ hk_), (Kd.freshB (g := gb307) (o := .cells #[.bool false, .slice none 0 0] 26 (0, 0)) (by (with_reducible repeat (first | refine k1_ ?_ _ | refine k2_ ?_ | refine k3_ ?_ _)); exact BK307.out) k_ hk_)⟩)) (below_size (by repeat (first | (with_reducible first | exact HB.out | apply b1_ | apply b2_ | apply b3_ | refine b4_ ?_ GE282.out | refine b4_ ?_ GE287.out | refine b4_ ?_ GE307.out) | exact HB.out))))
             have n4_ := a0_ (Kd.V_lower (v4_ (ok' := fun k_ => (P0_1_ k_ ∨ w.heap.size ≤ k_) ∧ k_ ≠ gb282 ∧ k_ ≠ gb287 ∧ k_ ≠ gb307) ho1 (fun k_ hk_ => ⟨(.inr (Nat.le_trans (below_size (by repeat (first | (with_reducible first | exact HB.out | apply b1_ | apply b2_ | apply b3_ | refine b4_ ?_ GE282.out | refine b4_ ?_ GE287.out | refine b4_ ?_ GE307.out) | exact HB.out))) hk_)), (Kd.freshB (g := gb282) (o := .cells #[.bool true, .slice A0_1 l0_1.length c0_1] 26 (0, 0)) (by (with_reducible repeat (first | refine k1_ ?_ _ | refine k2_ ?_ | refine k3_ ?_ _)); exact BK282.out) k_ hk_), (Kd.freshB (g := gb287) (o := .cells #[.bool t283, .slice Ao10 t284.length co10] 26 (0, 0)) (by (with_reducible repeat (first | refine k1_ ?_ _ | refine k2_ ?_ | refine k3_ ?_ _)); exact BK287.out) k_ hk_), (Kd.freshB (g := gb307) (o := .cells #[.bool false, .slice none 0 0] 26 (0, 0)) (by (with_reducible repeat (first | refine k1_ ?_ _ | refine k2_ ?_ | refine k3_ ?_ _)); exact BK307.out) k_ hk_)⟩)) (below_size (by repeat (first | (with_reducible first | exact HB.out | apply b1_ | apply b2_ | apply b3_ | refine b4_ ?_ GE282.out | refine b4_ ?_ GE287.out | refine b4_ ?_ GE307.out) | exact HB.out))))
             have n5_ := a0_ (blk_below (g := gb282) (o := .cells #[.bool true, .slice A0_1 l0_1.length c0_1] 26 (0, 0)) (by (with_reducible repeat (first | refine k1_ ?_ _ | refine k2_ ?_ | refine k3_ ?_ _)); exact BK282.out) hb)
             have n6_ := a0_ (blk_below (g := gb287) (o := .cells #[.bool t283, .slice Ao10 t284.length co10] 26 (0, 0)) (by (with_reducible repeat (first | refine k1_ ?_ _ | refine k2_ ?_ | refine k3_ ?_ _)); exact BK287.out) hb)
             have n7_ := a0_ (blk_below (g := gb307) (o := .cells #[.bool false, .slice none 0 0] 26 (0, 0)) (by (with_reducible repeat (first | refine k1_ ?_ _ | refine k2_ ?_ | refine k3_ ?_ _)); exact BK307.out) hb)
             have n8_ := a0_ (below_step (by repeat (first | (with_reducible first | exact HB.out | apply b1_ | apply b2_ | apply b3_ | refine b4_ ?_ GE282.out | refine b4_ ?_ GE287.out | refine b4_ ?_ GE307.out) | exact HB.out)) hb)
             clear HO_283001
             clear HO_288001
             clear HO297
             clear BK282
             clear BK287
             clear BK307
             clear HB
             have HO_283001 := n0_
             have HO_288001 := n1_
             have HO297 := n2_
             have HO301 := n3_
             have HO305 := n4_
             have BK282 := n5_
             have BK287 := n6_
             have BK307 := n7_
             have HB := n8_
             clear n0_ n1_ n2_ n3_ n4_ n5_ n6_ n7_ n8_
             (try clear hb)
             (try clear hb2)
             (try clear hk)
             (try clear hi)
             (try clear ho0)
             (try clear ho1)
             refine hK.out _ _ ⟨(blk_cell BK282.out 0).trans rfl, (blk_cell BK282.out 1).trans rfl⟩ (fun hHeld => ?_)
             clear hK K
             refine norm_ (a' := ?_) ?_ ?_
             rotate_left
             ·
              show Act.put _ (some 35) _ = _
              simp only [Act.put, s1_, s2_, s3_, i64_w, i32_w]
              rfl
             refine pure_ (i := 5) (N := some 30) (v := ?_) (a' := ?_) #[true, true, true, true, true, true, false, false, false, true, false, false] rfl rfl (any_of HT_.out (by kernel_rfl)) (fun _ _ _ h => h) (Or.inl ⟨by rfl, ?_⟩) ?_ ?_
             rotate_left
             ·
              intro w'
              go_simp
              with_reducible rfl
             rotate_left
             ·
              simp only [Act.put, s1_, s2_, s3_, i64_w, i32_w]
              rfl
             refine pure_ (i := 6) (N := some 36) (v := ?_) (a' := ?_) #[true, true, true, true, true, true, true, false, false, true, false, false] rfl rfl (any_of HT_.out (by kernel_rfl)) (fun _ _ _ h => h) (Or.inl ⟨by rfl, ?_⟩) ?_ ?_
             rotate_left
             ·
              intro w'
              go_simp
              with_reducible rfl
             rotate_left
             ·
              simp only [Act.put, s1_, s2_, s3_, i64_w, i32_w]
              rfl
             refine pure_ (i := 7) (N := some 37) (v := ?_) (a' := ?_) #[true, true, true, true, true, true, true, true, false, true, false, false] rfl rfl (any_of HT_.out (by kernel_rfl)) (fun _ _ _ h => h) (Or.inl ⟨by rfl, ?_⟩) ?_ ?_
             rotate_left
             ·
              intro w'
              go_simp
              with_reducible rfl
             rotate_left
             ·
              simp only [Act.put, s1_, s2_, s3_, i64_w, i32_w]
              rfl
             exact norm_ (by first | (simp only [putAll, Act.put, s1_, s2_, s3_]; done) | (simp only [putAll, Act.put, s1_, s2_, s3_]; rfl)) (hJ3_4_9 (.slice Ao36 t295.length co36, v300, v304, gb307) _ ⟨hHeld, (by (with_reducible repeat (first | apply v1_ | apply v2_ | apply v3_)); exact HO297.out), (by (with_reducible repeat (first | apply v1_ | apply v2_ | apply v3_)); exact HO301.out), (by (with_reducible repeat (first | apply v1_ | apply v2_ | apply v3_)); exact HO305.out), (by (with_reducible repeat (first | apply v1_ | apply v2_ | apply v3_)); exact HO_283001.out), (by (with_reducible repeat (first | apply v1_ | apply v2_ | apply v3_)); exact HO_288001.out), (by (with_reducible repeat (first | refine k1_ ?_ _ | refine k2_ ?_ | refine k3_ ?_ _)); exact BK282.out), (by (with_reducible repeat (first | refine k1_ ?_ _ | refine k2_ ?_ | refine k3_ ?_ _)); exact BK287.out), (by (with_reducible repeat (first | refine k1_ ?_ _ | refine k2_ ?_ | refine k3_ ?_ _)); exact BK307.out), GW307.out, GE307.out, NB282_307.out, NB307_282.out, NB287_307.out, NB307_287.out, (by repeat (first | (with_reducible first | exact HB.out | apply b1_ | apply b2_ | apply b3_ | refine b4_ ?_ GE282.out | refine b4_ ?_ GE287.out | refine b4_ ?_ GE307.out) | exact HB.out))⟩)
            ·
             skip
             refine box_step ?hg (N := 8) ?hd (cs := #[.bool false, .slice none 0 0]) (t := 26) ?hr ?_; (case hd => rfl); (case hg => rfl); (case hr => first | (go_simp; done) | (go_simp; rfl))
             intro gb306 hg w36 hbox hb
             have n0_ := a0_ (Kd.V_below (Kd.V_elderB (by (with_reducible repeat (first | apply v1_ | apply v2_ | apply v3_)); exact HO_283001.out) gb306 (Nat.le_of_eq hg.symm)) hb)
             have n1_ := a0_ (Kd.V_below (Kd.V_elderB (by (with_reducible repeat (first | apply v1_ | apply v2_ | apply v3_)); exact HO_288001.out) gb306 (Nat.le_of_eq hg.symm)) hb)
             have n2_ := a0_ (Kd.V_below (Kd.V_elderB (by (with_reducible repeat (first | apply v1_ | apply v2_ | apply v3_)); exact HO297.out) gb306 (Nat.le_of_eq hg.symm)) hb)
             have n3_ := a0_ (blk_below (g := gb282) (o := .cells #[.bool true, .slice A0_1 l0_1.length c0_1] 26 (0, 0)) (by (with_reducible repeat (first | refine k1_ ?_ _ | refine k2_ ?_ | refine k3_ ?_ _)); exact BK282.out) hb)
             have n4_ := a0_ (blk_below (g := gb287) (o := .cells #[.bool t283, .slice Ao10 t284.length co10] 26 (0, 0)) (by (with_reducible repeat (first | refine k1_ ?_ _ | refine k2_ ?_ | refine k3_ ?_ _)); exact BK287.out) hb)
             have n5_ := a0_ (blk_below (g := gb307) (o := .cells #[.bool false, .slice none 0 0] 26 (0, 0)) (by (with_reducible repeat (first | refine k1_ ?_ _ | refine k2_ ?_ | refine k3_ ?_ _)); exact BK307.out) hb)
             have n6_ := a0_ (below_step (by repeat (first | (with_reducible first | exact HB.out | apply b1_ | apply b2_ | apply b3_ | refine b4_ ?_ GE282.out | refine b4_ ?_ GE287.out | refine b4_ ?_ GE307.out) | exact HB.out)) hb)
             have n7_ := a0_ (hbox)
             have n8_ := a0_ ((by rw [hg]; exact (below_size (by repeat (first | (with_reducible first | exact HB.out | apply b1_ | apply b2_ | apply b3_ | refine b4_ ?_ GE282.out | refine b4_ ?_ GE287.out | refine b4_ ?_ GE307.out) | exact HB.out))) : w.heap.size ≤ gb306))
             have n9_ := a0_ ((by rw [hg]; exact (below_size (by repeat (first | (with_reducible first | exact HB.out | apply b1_ | apply b2_ | apply b3_ | refine b4_ ?_ GE282.out | refine b4_ ?_ GE287.out | refine b4_ ?_ GE307.out) | exact HB.out))) : w.heap.size ≤ gb306))
             have n10_ := a0_ ((by rw [hg]; exact Nat.ne_of_lt (blk_lt (g := gb282) (o := .cells #[.bool true, .slice A0_1 l0_1.length c0_1] 26 (0, 0)) (by (with_reducible repeat (first | refine k1_ ?_ _ | refine k2_ ?_ | refine k3_ ?_ _)); exact BK282.out)) : gb282 ≠ gb306))
             have n11_ := a0_ ((by rw [hg]; exact Nat.ne_of_gt (blk_lt (g := gb282) (o := .cells #[.bool true, .slice A0_1 l0_1.length c0_1] 26 (0, 0)) (by (with_reducible repeat (first | refine k1_ ?_ _ | refine k2_ ?_ | refine k3_ ?_ _)); exact BK282.out)) : gb306 ≠ gb282))
             have n12_ := a0_ ((by rw [hg]; exact Nat.ne_of_lt (blk_lt (g := gb287) (o := .cells #[.bool t283, .slice Ao10 t284.length co10] 26 (0, 0)) (by (with_reducible repeat (first | refine k1_ ?_ _ | refine k2_ ?_ | refine k3_ ?_ _)); exact BK287.out)) : gb287 ≠ gb306))
             have n13_ := a0_ ((by rw [hg]; exact Nat.ne_of_gt (blk_lt (g := gb287) (o := .cells #[.bool t283, .slice Ao10 t284.length co10] 26 (0, 0)) (by (with_reducible repeat (first | refine k1_ ?_ _ | refine k2_ ?_ | refine k3_ ?_ _)); exact BK287.out)) : gb306 ≠ gb287))
             have n14_ := a0_ ((by rw [hg]; exact Nat.ne_of_lt (blk_lt (g := gb307) (o := .cells #[.bool false, .slice none 0 0] 26 (0, 0)) (by (with_reducible repeat (first | refine k1_ ?_ _ | refine k2_ ?_ | refine k3_ ?_ _)); exact BK307.out)) : gb307 ≠ gb306))
             have n15_ := a0_ ((by rw [hg]; exact Nat.ne_of_gt (blk_lt (g := gb307) (o := .cells #[.bool false, .slice none 0 0] 26 (0, 0)) (by (with_reducible repeat (first | refine k1_ ?_ _ | refine k2_ ?_ | refine k3_ ?_ _)); exact BK307.out)) : gb306 ≠ gb307))
             clear HO_283001
             clear HO_288001
             clear HO297
             clear BK282
             clear BK287
             clear BK307
             clear HB
             have HO_283001 := n0_
             have HO_288001 := n1_
             have HO297 := n2_
             have BK282 := n3_
             have BK287 := n4_
             have BK307 := n5_
             have HB := n6_
             have BK306 := n7_
             have GW306 := n8_
             have GE306 := n9_
             have NB282_306 := n10_
             have NB306_282 := n11_
             have NB287_306 := n12_
             have NB306_287 := n13_
             have NB307_306 := n14_
             have NB306_307 := n15_
             clear n0_ n1_ n2_ n3_ n4_ n5_ n6_ n7_ n8_ n9_ n10_ n11_ n12_ n13_ n14_ n15_
             clear hb hbox hg
             refine hK.out _ _ ⟨(blk_cell BK282.out 0).trans rfl, (blk_cell BK282.out 1).trans rfl⟩ (fun hHeld => ?_)
             clear hK K
             refine norm_ (a' := ?_) ?_ ?_
             rotate_left
             ·
              show Act.put _ (some 8) _ = _
              simp only [Act.put, s1_, s2_, s3_, i64_w, i32_w]
              rfl
             exact norm_ (by first | (simp only [putAll, Act.put, s1_, s2_, s3_]; done) | (simp only [putAll, Act.put, s1_, s2_, s3_]; rfl)) (hJ3_8_9 ((.slice Ao36 t295.length co36), gb306, gb307) _ ⟨hHeld, (by (with_reducible repeat (first | apply v1_ | apply v2_ | apply v3_)); exact v4_ HO297.out (fun _ hk => ⟨hk.1.1, ⟨hk.1.2.1, ⟨hk.1.2.2.1, ⟨hk.2, hk.1.2.2.2⟩⟩⟩⟩)), (by (with_reducible repeat (first | apply v1_ | apply v2_ | apply v3_)); exact v4_ HO_283001.out (fun _ hk => ⟨hk.1.1, ⟨hk.1.2.1, ⟨hk.1.2.2.1, ⟨hk.2, hk.1.2.2.2⟩⟩⟩⟩)), (by (with_reducible repeat (first | apply v1_ | apply v2_ | apply v3_)); exact v4_ HO_288001.out (fun _ hk => ⟨hk.1.1, ⟨hk.1.2.1, ⟨hk.1.2.2.1, ⟨hk.2, hk.1.2.2.2⟩⟩⟩⟩)), (by (with_reducible repeat (first | refine k1_ ?_ _ | refine k2_ ?_ | refine k3_ ?_ _)); exact BK282.out), (by (with_reducible repeat (first | refine k1_ ?_ _ | refine k2_ ?_ | refine k3_ ?_ _)); exact BK287.out), (by (with_reducible repeat (first | refine k1_ ?_ _ | refine k2_ ?_ | refine k3_ ?_ _)); exact BK306.out), (by (with_reducible repeat (first | refine k1_ ?_ _ | refine k2_ ?_ | refine k3_ ?_ _)); exact BK307.out), GW306.out, GE306.out, NB282_306.out, NB306_282.out, NB287_306.out, NB306_287.out, NB307_306.out, NB306_307.out, GW307.out, GE307.out, NB282_307.out, NB307_282.out, NB287_307.out, NB307_287.out, (by repeat (first | (with_reducible first | exact HB.out | apply b1_ | apply b2_ | apply b3_ | refine b4_ ?_ GE282.out | refine b4_ ?_ GE287.out | refine b4_ ?_ GE307.out | refine b4_ ?_ GE306.out) | exact HB.out))⟩)
          ·
           skip
           rintro ⟨v296, gb306⟩ w35 ⟨hS_, h0_, h1_, h2_, h3_, h4_, h5_, h6_, h7_, h8_, h9_, h10_, h11_, h12_⟩
           have n0_ : Aside0 (Kd.V (Kd.int .u32) 40 w35 w.heap.size (fun k_ => (P0_1_ k_ ∨ w.heap.size ≤ k_) ∧ k_ ≠ gb282 ∧ k_ ≠ gb287 ∧ k_ ≠ gb306) v296 t295) := ⟨h0_⟩
           have n1_ : Aside0 (Kd.V (Kd.int .u32) 40 w35 w.heap.size (fun k_ => (P0_1_ k_ ∨ w.heap.size ≤ k_) ∧ k_ ≠ gb282 ∧ k_ ≠ gb287 ∧ k_ ≠ gb306) (.slice A0_1 l0_1.length c0_1) l0_1) := ⟨h1_⟩
           have n2_ : Aside0 (Kd.V (Kd.int .u32) 40 w35 w.heap.size (fun k_ => (P0_1_ k_ ∨ w.heap.size ≤ k_) ∧ k_ ≠ gb282 ∧ k_ ≠ gb287 ∧ k_ ≠ gb306) (.slice Ao10 t284.length co10) t284) := ⟨h2_⟩
           have n3_ : Aside0 (w35.heap[gb282]? = some (.cells #[.bool true, .slice A0_1 l0_1.length c0_1] 26 (0, 0))) := ⟨h3_⟩
           have n4_ : Aside0 (w35.heap[gb287]? = some (.cells #[.bool t283, .slice Ao10 t284.length co10] 26 (0, 0))) := ⟨h4_⟩
           have n5_ : Aside0 (w35.heap[gb306]? = some (.cells #[.bool false, .slice none 0 0] 26 (0, 0))) := ⟨h5_⟩
           have n6_ : Aside0 (w.heap.size ≤ gb306) := ⟨h6_⟩
           have n7_ : Aside0 (w.heap.size ≤ gb306) := ⟨h7_⟩
           have n8_ : Aside0 (gb282 ≠ gb306) := ⟨h8_⟩
           have n9_ : Aside0 (gb306 ≠ gb282) := ⟨h9_⟩
           have n10_ : Aside0 (gb287 ≠ gb306) := ⟨h10_⟩
           have n11_ : Aside0 (gb306 ≠ gb287) := ⟨h11_⟩
           have n12_ : Aside0 (Below w.heap.size w w35) := ⟨h12_⟩
           clear HO_283001
           clear HO_288001
           clear BK282
           clear BK287
           clear HB
           clear h0_ h1_ h2_ h3_ h4_ h5_ h6_ h7_ h8_ h9_ h10_ h11_ h12_
           have HO297 := n0_
           have HO_283001 := n1_
           have HO_288001 := n2_
           have BK282 := n3_
           have BK287 := n4_
           have BK306 := n5_
           have GW306 := n6_
           have GE306 := n7_
           have NB282_306 := n8_
           have NB306_282 := n9_
           have NB287_306 := n10_
           have NB306_287 := n11_
           have HB := n12_
           clear n0_ n1_ n2_ n3_ n4_ n5_ n6_ n7_ n8_ n9_ n10_ n11_ n12_
           have hHeld : w35.cell? ⟨gb282, 0, none⟩ = some (.bool true) ∧ w35.cell? ⟨gb282, 1, none⟩ = some (.slice A0_1 l0_1.length c0_1) := hS_
           obtain ⟨Ao36, co36, eo36⟩ := Kd.V_slice HO297.out
           (first | subst eo36 | (injection eo36 with f1_ f2_ f3_; have f4_ := f1_.symm; have f5_ := f3_.symm; clear f1_ f2_ f3_; subst f4_; subst f5_))
           refine norm_ (a' := ?_) ?_ ?_
           rotate_left
           ·
            simp only [putAll, Act.put, s1_, s2_, s3_]
            rfl
           refine two_ (i := 4) (j := 9) (Ni := some 35) (Nj := some 9) #[true, true, true, true, true, false, false, false, true, false, false, false] #[true, true, true, true, false, false, false, false, true, true, false, false] rfl rfl rfl rfl (two_of HT_.out (by kernel_rfl)) (by decide) (by decide) (fun K hK => ?_) (fun K hK => ?_)
           ·
            skip
            refine goes_ Tryd.func8 (by kernel_rfl) rfl #[.agg #[.bool true, .slice A0_1 l0_1.length c0_1], .agg #[.bool t294, .slice Ao36 t295.length co36]] (by rfl) rfl rfl (by (try simp only [List.map_toArray, List.map_cons, List.map_nil]); first | done | rfl | (simp only [List.length_drop, List.length_take]; rfl)) ?_
            with_reducible refine (spec_WideDiv.calls kj3 true _ _ l0_1 t294 _ _ t295 t298 t299 t302 t303 _ ?side1 ?side2 ?side3 ?side4 A29.out).mono ?_
            (case side1 => repeat (first | exact (Kd.V_reads' HO_283001.out).2.2 | (with_reducible refine Kd.C_alloc ?_ _) | (with_reducible refine Kd.C_drewN ?_ _) | (with_reducible refine Kd.C_drew ?_)))
            (case side2 => exact (Kd.V_reads' HO_283001.out).2.1)
            (case side3 => repeat (first | exact (Kd.V_reads' HO297.out).2.2 | (with_reducible refine Kd.C_alloc ?_ _) | (with_reducible refine Kd.C_drewN ?_ _) | (with_reducible refine Kd.C_drew ?_)))
            (case side4 => exact (Kd.V_reads' HO297.out).2.1)
            rintro e w37 ⟨v300, v304, rfl, ho0, ho1, hb⟩
            refine ⟨_, rfl, ?_⟩
            have n0_ := a0_ (Kd.V_below (by (with_reducible repeat (first | apply v1_ | apply v2_ | apply v3_)); exact HO_283001.out) hb)
            have n1_ := a0_ (Kd.V_below (by (with_reducible repeat (first | apply v1_ | apply v2_ | apply v3_)); exact HO_288001.out) hb)
            have n2_ := a0_ (Kd.V_below (by (with_reducible repeat (first | apply v1_ | apply v2_ | apply v3_)); exact HO297.out) hb)
            have n3_ := a0_ (Kd.V_lower (v4_ (ok' := fun k_ => (P0_1_ k_ ∨ w.heap.size ≤ k_) ∧ k_ ≠ gb282 ∧ k_ ≠ gb287 ∧ k_ ≠ gb306) ho0 (fun k_ hk_ => ⟨(.inr (Nat.le_trans (below_size (by repeat (first | (with_reducible first | exact HB.out | apply b1_ | apply b2_ | apply b3_ | refine b4_ ?_ GE282.out | refine b4_ ?_ GE287.out | refine b4_ ?_ GE306.out) | exact HB.out))) hk_)), (Kd.freshB (g := gb282) (o := .cells #[.bool true, .slice A0_1 l0_1.length c0_1] 26 (0, 0)) (by (with_reducible repeat (first | refine k1_ ?_ _ | refine k2_ ?_ | refine k3_ ?_ _)); exact BK282.out) k_ hk_), (Kd.freshB (g := gb287) (o := .cells #[.bool t283, .slice Ao10 t284.length co10] 26 (0, 0)) (by (with_reducible repeat (first | refine k1_ ?_ _ | refine k2_ ?_ | refine k3_ ?_ _)); exact BK287.out) k_ hk_), (Kd.freshB (g := gb306) (o := .cells #[.bool false, .slice none 0 0] 26 (0, 0)) (by (with_reducible repeat (first | refine k1_ ?_ _ | refine k2_ ?_ | refine k3_ ?_ _)); exact BK306.out) k_ hk_)⟩)) (below_size (by repeat (first | (with_reducible first | exact HB.out | apply b1_ | apply b2_ | apply b3_ | refine b4_ ?_ GE282.out | refine b4_ ?_ GE287.out | refine b4_ ?_ GE306.out) | exact HB.out))))
            have n4_ := a0_ (Kd.V_lower (v4_ (ok' := fun k_ => (P0_1_ k_ ∨ w.heap.size ≤ k_) ∧ k_ ≠ gb282 ∧ k_ ≠ gb287 ∧ k_ ≠ gb306) ho1 (fun k_ hk_ => ⟨(.inr (Nat.le_trans (below_size (by repeat (first | (with_reducible first | exact HB.out | apply b1_ | apply b2_ | apply b3_ | refine b4_ ?_ GE282.out | refine b4_ ?_ GE287.out | refine b4_ ?_ GE306.out) | exact HB.out))) hk_)), (Kd.freshB (g := gb282) (o := .cells #[.bool true, .slice A0_1 l0_1.length c0_1] 26 (0, 0)) (by (with_reducible repeat (first | refine k1_ ?_ _ | refine k2_ ?_ | refine k3_ ?_ _)); exact BK282.out) k_ hk_), (Kd.freshB (g := gb287) (o := .cells #[.bool t283, .slice Ao10 t284.length co10] 26 (0, 0)) (by (with_reducible repeat (first | refine k1_ ?_ _ | refine k2_ ?_ | refine k3_ ?_ _)); exact BK287.out) k_ hk_), (Kd.freshB (g := gb306) (o := .cells #[.bool false, .slice none 0 0] 26 (0, 0)) (by (with_reducible repeat (first | refine k1_ ?_ _ | refine k2_ ?_ | refine k3_ ?_ _)); exact BK306.out) k_ hk_)⟩)) (below_size (by repeat (first | (with_reducible first | exact HB.out | apply b1_ | apply b2_ | apply b3_ | refine b4_ ?_ GE282.out | refine b4_ ?_ GE287.out | refine b4_ ?_ GE306.out) | exact HB.out))))
            have n5_ := a0_ (blk_below (g := gb282) (o := .cells #[.bool true, .slice A0_1 l0_1.length c0_1] 26 (0, 0)) (by (with_reducible repeat (first | refine k1_ ?_ _ | refine k2_ ?_ | refine k3_ ?_ _)); exact BK282.out) hb)
            have n6_ := a0_ (blk_below (g := gb287) (o := .cells #[.bool t283, .slice Ao10 t284.length co10] 26 (0, 0)) (by (with_reducible repeat (first | refine k1_ ?_ _ | refine k2_ ?_ | refine k3_ ?_ _)); exact BK287.out) hb)
            have n7_ := a0_ (blk_below (g := gb306) (o := .cells #[.bool false, .slice none 0 0] 26 (0, 0)) (by (with_reducible repeat (first | refine k1_ ?_ _ | refine k2_ ?_ | refine k3_ ?_ _)); exact BK306.out) hb)
            have n8_ := a0_ (below_step (by repeat (first | (with_reducible first | exact HB.out | apply b1_ | apply b2_ | apply b3_ | refine b4_ ?_ GE282.out | refine b4_ ?_ GE287.out | refine b4_ ?_ GE306.out) | exact HB.out)) hb)
            clear HO_283001
            clear HO_288001
            clear HO297
            clear BK282
            clear BK287
            clear BK306
            clear HB
            have HO_283001 := n0_
            have HO_288001 := n1_
            have HO297 := n2_
            have HO301 := n3_
            have HO305 := n4_
            have BK282 := n5_
            have BK287 := n6_
            have BK306 := n7_
            have HB := n8_
            clear n0_ n1_ n2_ n3_ n4_ n5_ n6_ n7_ n8_
            (try clear hb)
            (try clear hb2)
            (try clear hk)
            (try clear hi)
            (try clear ho0)
            (try clear ho1)
            refine hK.out _ _ ⟨(blk_cell BK282.out 0).trans rfl, (blk_cell BK282.out 1).trans rfl⟩ (fun hHeld => ?_)
            clear hK K
            refine norm_ (a' := ?_) ?_ ?_
            rotate_left
            ·
             show Act.put _ (some 35) _ = _
             simp only [Act.put, s1_, s2_, s3_, i64_w, i32_w]
             rfl
            refine pure_ (i := 5) (N := some 30) (v := ?_) (a' := ?_) #[true, true, true, true, true, true, false, false, true, false, false, false] rfl rfl (any_of HT_.out (by kernel_rfl)) (fun _ _ _ h => h) (Or.inl ⟨by rfl, ?_⟩) ?_ ?_
            rotate_left
            ·
             intro w'
             go_simp
             with_reducible rfl
            rotate_left
            ·
             simp only [Act.put, s1_, s2_, s3_, i64_w, i32_w]
             rfl
            refine pure_ (i := 6) (N := some 36) (v := ?_) (a' := ?_) #[true, true, true, true, true, true, true, false, true, false, false, false] rfl rfl (any_of HT_.out (by kernel_rfl)) (fun _ _ _ h => h) (Or.inl ⟨by rfl, ?_⟩) ?_ ?_
            rotate_left
            ·
             intro w'
             go_simp
             with_reducible rfl
            rotate_left
            ·
             simp only [Act.put, s1_, s2_, s3_, i64_w, i32_w]
             rfl
            refine pure_ (i := 7) (N := some 37) (v := ?_) (a' := ?_) #[true, true, true, true, true, true, true, true, true, false, false, false] rfl rfl (any_of HT_.out (by kernel_rfl)) (fun _ _ _ h => h) (Or.inl ⟨by rfl, ?_⟩) ?_ ?_
            rotate_left
            ·
             intro w'
             go_simp
             with_reducible rfl
            rotate_left
            ·
             simp only [Act.put, s1_, s2_, s3_, i64_w, i32_w]
             rfl
            exact norm_ (by first | (simp only [putAll, Act.put, s1_, s2_, s3_]; done) | (simp only [putAll, Act.put, s1_, s2_, s3_]; rfl)) (hJ3_4_8 (.slice Ao36 t295.length co36, v300, v304, gb306) _ ⟨hHeld, (by (with_reducible repeat (first | apply v1_ | apply v2_ | apply v3_)); exact HO297.out), (by (with_reducible repeat (first | apply v1_ | apply v2_ | apply v3_)); exact HO301.out), (by (with_reducible repeat (first | apply v1_ | apply v2_ | apply v3_)); exact HO305.out), (by (with_reducible repeat (first | apply v1_ | apply v2_ | apply v3_)); exact HO_283001.out), (by (with_reducible repeat (first | apply v1_ | apply v2_ | apply v3_)); exact HO_288001.out), (by (with_reducible repeat (first | refine k1_ ?_ _ | refine k2_ ?_ | refine k3_ ?_ _)); exact BK282.out), (by (with_reducible repeat (first | refine k1_ ?_ _ | refine k2_ ?_ | refine k3_ ?_ _)); exact BK287.out), (by (with_reducible repeat (first | refine k1_ ?_ _ | refine k2_ ?_ | refine k3_ ?_ _)); exact BK306.out), GW306.out, GE306.out, NB282_306.out, NB306_282.out, NB287_306.out, NB306_287.out, (by repeat (first | (with_reducible first | exact HB.out | apply b1_ | apply b2_ | apply b3_ | refine b4_ ?_ GE282.out | refine b4_ ?_ GE287.out | refine b4_ ?_ GE306.out) | exact HB.out))⟩)
           ·
            skip
            refine box_step ?hg (N := 9) ?hd (cs := #[.bool false, .slice none 0 0]) (t := 26) ?hr ?_; (case hd => rfl); (case hg => rfl); (case hr => first | (go_simp; done) | (go_simp; rfl))
            intro gb307 hg w36 hbox hb
            have n0_ := a0_ (Kd.V_below (Kd.V_elderB (by (with_reducible repeat (first | apply v1_ | apply v2_ | apply v3_)); exact HO_283001.out) gb307 (Nat.le_of_eq hg.symm)) hb)
            have n1_ := a0_ (Kd.V_below (Kd.V_elderB (by (with_reducible repeat (first | apply v1_ | apply v2_ | apply v3_)); exact HO_288001.out) gb307 (Nat.le_of_eq hg.symm)) hb)
            have n2_ := a0_ (Kd.V_below (Kd.V_elderB (by (with_reducible repeat (first | apply v1_ | apply v2_ | apply v3_)); exact HO297.out) gb307 (Nat.le_of_eq hg.symm)) hb)
            have n3_ := a0_ (blk_below (g := gb282) (o := .cells #[.bool true, .slice A0_1 l0_1.length c0_1] 26 (0, 0)) (by (with_reducible repeat (first | refine k1_ ?_ _ | refine k2_ ?_ | refine k3_ ?_ _)); exact BK282.out) hb)
            have n4_ := a0_ (blk_below (g := gb287) (o := .cells #[.bool t283, .slice Ao10 t284.length co10] 26 (0, 0)) (by (with_reducible repeat (first | refine k1_ ?_ _ | refine k2_ ?_ | refine k3_ ?_ _)); exact BK287.out) hb)
            have n5_ := a0_ (blk_below (g := gb306) (o := .cells #[.bool false, .slice none 0 0] 26 (0, 0)) (by (with_reducible repeat (first | refine k1_ ?_ _ | refine k2_ ?_ | refine k3_ ?_ _)); exact BK306.out) hb)
            have n6_ := a0_ (below_step (by repeat (first | (with_reducible first | exact HB.out | apply b1_ | apply b2_ | apply b3_ | refine b4_ ?_ GE282.out | refine b4_ ?_ GE287.out | refine b4_ ?_ GE306.out) | exact HB.out)) hb)
            have n7_ := a0_ (hbox)
            have n8_ := a0_ ((by rw [hg]; exact (below_size (by repeat (first | (with_reducible first | exact HB.out | apply b1_ | apply b2_ | apply b3_ | refine b4_ ?_ GE282.out | refine b4_ ?_ GE287.out | refine b4_ ?_ GE306.out) | exact HB.out))) : w.heap.size ≤ gb307))
            have n9_ := a0_ ((by rw [hg]; exact (below_size (by repeat (first | (with_reducible first | exact HB.out | apply b1_ | apply b2_ | apply b3_ | refine b4_ ?_ GE282.out | refine b4_ ?_ GE287.out | refine b4_ ?_ GE306.out) | exact HB.out))) : w.heap.size ≤ gb307))
            have n10_ := a0_ ((by rw [hg]; exact Nat.ne_of_lt (blk_lt (g := gb282) (o := .cells #[.bool true, .slice A0_1 l0_1.length c0_1] 26 (0, 0)) (by (with_reducible repeat (first | refine k1_ ?_ _ | refine k2_ ?_ | refine k3_ ?_ _)); exact BK282.out)) : gb282 ≠ gb307))
            have n11_ := a0_ ((by rw [hg]; exact Nat.ne_of_gt (blk_lt (g := gb282) (o := .cells #[.bool true, .slice A0_1 l0_1.length c0_1] 26 (0, 0)) (by (with_reducible repeat (first | refine k1_ ?_ _ | refine k2_ ?_ | refine k3_ ?_ _)); exact BK282.out)) : gb307 ≠ gb282))
            have n12_ := a0_ ((by rw [hg]; exact Nat.ne_of_lt (blk_lt (g := gb287) (o := .cells #[.bool t283, .slice Ao10 t284.length co10] 26 (0, 0)) (by (with_reducible repeat (first | refine k1_ ?_ _ | refine k2_ ?_ | refine k3_ ?_ _)); exact BK287.out)) : gb287 ≠ gb307))
            have n13_ := a0_ ((by rw [hg]; exact Nat.ne_of_gt (blk_lt (g := gb287) (o := .cells #[.bool t283, .slice Ao10 t284.length co10] 26 (0, 0)) (by (with_reducible repeat (first | refine k1_ ?_ _ | refine k2_ ?_ | refine k3_ ?_ _)); exact BK287.out)) : gb307 ≠ gb287))
            have n14_ := a0_ ((by rw [hg]; exact Nat.ne_of_lt (blk_lt (g := gb306) (o := .cells #[.bool false, .slice none 0 0] 26 (0, 0)) (by (with_reducible repeat (first | refine k1_ ?_ _ | refine k2_ ?_ | refine k3_ ?_ _)); exact BK306.out)) : gb306 ≠ gb307))
            have n15_ := a0_ ((by rw [hg]; exact Nat.ne_of_gt (blk_lt (g := gb306) (o := .cells #[.bool false, .slice none 0 0] 26 (0, 0)) (by (with_reducible repeat (first | refine k1_ ?_ _ | refine k2_ ?_ | refine k3_ ?_ _)); exact BK306.out)) : gb307 ≠ gb306))
            clear HO_283001
            clear HO_288001
            clear HO297
            clear BK282
            clear BK287
            clear BK306
            clear HB
            have HO_283001 := n0_
            have HO_288001 := n1_
            have HO297 := n2_
            have BK282 := n3_
            have BK287 := n4_
            have BK306 := n5_
            have HB := n6_
            have BK307 := n7_
            have GW307 := n8_
            have GE307 := n9_
            have NB282_307 := n10_
            have NB307_282 := n11_
            have NB287_307 := n12_
            have NB307_287 := n13_
            have NB306_307 := n14_
            have NB307_306 := n15_
            clear n0_ n1_ n2_ n3_ n4_ n5_ n6_ n7_ n8_ n9_ n10_ n11_ n12_ n13_ n14_ n15_
            clear hb hbox hg
            refine hK.out _ _ ⟨(blk_cell BK282.out 0).trans rfl, (blk_cell BK282.out 1).trans rfl⟩ (fun hHeld => ?_)
            clear hK K
            refine norm_ (a' := ?_) ?_ ?_
            rotate_left
            ·
             show Act.put _ (some 9) _ = _
             simp only [Act.put, s1_, s2_, s3_, i64_w, i32_w]
             rfl
            exact norm_ (by first | (simp only [putAll, Act.put, s1_, s2_, s3_]; done) | (simp only [putAll, Act.put, s1_, s2_, s3_]; rfl)) (hJ3_8_9 ((.slice Ao36 t295.length co36), gb306, gb307) _ ⟨hHeld, (by (with_reducible repeat (first | apply v1_ | apply v2_ | apply v3_)); exact v4_ HO297.out (fun _ hk => ⟨hk.1.1, ⟨hk.1.2.1, ⟨hk.1.2.2.1, ⟨hk.1.2.2.2, hk.2⟩⟩⟩⟩)), (by (with_reducible repeat (first | apply v1_ | apply v2_ | apply v3_)); exact v4_ HO_283001.out (fun _ hk => ⟨hk.1.1, ⟨hk.1.2.1, ⟨hk.1.2.2.1, ⟨hk.1.2.2.2, hk.2⟩⟩⟩⟩)), (by (with_reducible repeat (first | apply v1_ | apply v2_ | apply v3_)); exact v4_ HO_288001.out (fun _ hk => ⟨hk.1.1, ⟨hk.1.2.1, ⟨hk.1.2.2.1, ⟨hk.1.2.2.2, hk.2⟩⟩⟩⟩)), (by (with_reducible repeat (first | refine k1_ ?_ _ | refine k2_ ?_ | refine k3_ ?_ _)); exact BK282.out), (by (with_reducible repeat (first | refine k1_ ?_ _ | refine k2_ ?_ | refine k3_ ?_ _)); exact BK287.out), (by (with_reducible repeat (first | refine k1_ ?_ _ | refine k2_ ?_ | refine k3_ ?_ _)); exact BK306.out), (by (with_reducible repeat (first | refine k1_ ?_ _ | refine k2_ ?_ | refine k3_ ?_ _)); exact BK307.out), GW306.out, GE306.out, NB282_306.out, NB306_282.out, NB287_306.out, NB306_287.out, NB307_306.out, NB306_307.out, GW307.out, GE307.out, NB282_307.out, NB307_282.out, NB287_307.out, NB307_287.out, (by repeat (first | (with_reducible first | exact HB.out | apply b1_ | apply b2_ | apply b3_ | refine b4_ ?_ GE282.out | refine b4_ ?_ GE287.out | refine b4_ ?_ GE306.out | refine b4_ ?_ GE307.out) | exact HB.out))⟩)
         ·
          skip
          rintro ⟨v296, v300, v304⟩ w36 ⟨hS_, h0_, h1_, h2_, h3_, h4_, h5_, h6_, h7_⟩
          have n0_ : Aside0 (Kd.V (Kd.int .u32) 40 w36 w.heap.size (fun k_ => (P0_1_ k_ ∨ w.heap.size ≤ k_) ∧ k_ ≠ gb282 ∧ k_ ≠ gb287) v296 t295) := ⟨h0_⟩
          have n1_ : Aside0 (Kd.V (Kd.int .u32) 40 w36 w.heap.size (fun k_ => (P0_1_ k_ ∨ w.heap.size ≤ k_) ∧ k_ ≠ gb282 ∧ k_ ≠ gb287) v300 t299) := ⟨h1_⟩
          have n2_ : Aside0 (Kd.V (Kd.int .u32) 40 w36 w.heap.size (fun k_ => (P0_1_ k_ ∨ w.heap.size ≤ k_) ∧ k_ ≠ gb282 ∧ k_ ≠ gb287) v304 t303) := ⟨h2_⟩
          have n3_ : Aside0 (Kd.V (Kd.int .u32) 40 w36 w.heap.size (fun k_ => (P0_1_ k_ ∨ w.heap.size ≤ k_) ∧ k_ ≠ gb282 ∧ k_ ≠ gb287) (.slice A0_1 l0_1.length c0_1) l0_1) := ⟨h3_⟩
          have n4_ : Aside0 (Kd.V (Kd.int .u32) 40 w36 w.heap.size (fun k_ => (P0_1_ k_ ∨ w.heap.size ≤ k_) ∧ k_ ≠ gb282 ∧ k_ ≠ gb287) (.slice Ao10 t284.length co10) t284) := ⟨h4_⟩
          have n5_ : Aside0 (w36.heap[gb282]? = some (.cells #[.bool true, .slice A0_1 l0_1.length c0_1] 26 (0, 0))) := ⟨h5_⟩
          have n6_ : Aside0 (w36.heap[gb287]? = some (.cells #[.bool t283, .slice Ao10 t284.length co10] 26 (0, 0))) := ⟨h6_⟩
          have n7_ : Aside0 (Below w.heap.size w w36) := ⟨h7_⟩
          clear HO_283001
          clear HO_288001
          clear BK282
          clear BK287
          clear HB
          clear h0_ h1_ h2_ h3_ h4_ h5_ h6_ h7_
          have HO297 := n0_
          have HO301 := n1_
          have HO305 := n2_
          have HO_283001 := n3_
          have HO_288001 := n4_
          have BK282 := n5_
          have BK287 := n6_
          have HB := n7_
          clear n0_ n1_ n2_ n3_ n4_ n5_ n6_ n7_
          have hHeld : w36.cell? ⟨gb282, 0, none⟩ = some (.bool true) ∧ w36.cell? ⟨gb282, 1, none⟩ = some (.slice A0_1 l0_1.length c0_1) := hS_
          refine norm_ (a' := ?_) ?_ ?_
          rotate_left
          ·
           simp only [putAll, Act.put, s1_, s2_, s3_]
           rfl
          refine two_ (i := 8) (j := 9) (Ni := some 8) (Nj := some 9) #[true, true, true, true, true, true, true, true, true, false, false, false] #[true, true, true, true, true, true, true, true, false, true, false, false] rfl rfl rfl rfl (two_of HT_.out (by kernel_rfl)) (by decide) (by decide) (fun K hK => ?_) (fun K hK => ?_)
          ·
           skip
           refine box_step ?hg (N := 8) ?hd (cs := #[.bool false, .slice none 0 0]) (t := 26) ?hr ?_; (case hd => rfl); (case hg => rfl); (case hr => first | (go_simp; done) | (go_simp; rfl))
           intro gb306 hg w37 hbox hb
           have n0_ := a0_ (Kd.V_below (Kd.V_elderB (by (with_reducible repeat (first | apply v1_ | apply v2_ | apply v3_)); exact HO_283001.out) gb306 (Nat.le_of_eq hg.symm)) hb)
           have n1_ := a0_ (Kd.V_below (Kd.V_elderB (by (with_reducible repeat (first | apply v1_ | apply v2_ | apply v3_)); exact HO_288001.out) gb306 (Nat.le_of_eq hg.symm)) hb)
           have n2_ := a0_ (Kd.V_below (Kd.V_elderB (by (with_reducible repeat (first | apply v1_ | apply v2_ | apply v3_)); exact HO297.out) gb306 (Nat.le_of_eq hg.symm)) hb)
           have n3_ := a0_ (Kd.V_below (Kd.V_elderB (by (with_reducible repeat (first | apply v1_ | apply v2_ | apply v3_)); exact HO301.out) gb306 (Nat.le_of_eq hg.symm)) hb)
           have n4_ := a0_ (Kd.V_below (Kd.V_elderB (by (with_reducible repeat (first | apply v1_ | apply v2_ | apply v3_)); exact HO305.out) gb306 (Nat.le_of_eq hg.symm)) hb)
           have n5_ := a0_ (blk_below (g := gb282) (o := .cells #[.bool true, .slice A0_1 l0_1.length c0_1] 26 (0, 0)) (by (with_reducible repeat (first | refine k1_ ?_ _ | refine k2_ ?_ | refine k3_ ?_ _)); exact BK282.out) hb)
           have n6_ := a0_ (blk_below (g := gb287) (o := .cells #[.bool t283, .slice Ao10 t284.length co10] 26 (0, 0)) (by (with_reducible repeat (first | refine k1_ ?_ _ | refine k2_ ?_ | refine k3_ ?_ _)); exact BK287.out) hb)
           have n7_ := a0_ (below_step (by repeat (first | (with_reducible first | exact HB.out | apply b1_ | apply b2_ | apply b3_ | refine b4_ ?_ GE282.out | refine b4_ ?_ GE287.out) | exact HB.out)) hb)
           have n8_ := a0_ (hbox)
           have n9_ := a0_ ((by rw [hg]; exact (below_size (by repeat (first | (with_reducible first | exact HB.out | apply b1_ | apply b2_ | apply b3_ | refine b4_ ?_ GE282.out | refine b4_ ?_ GE287.out) | exact HB.out))) : w.heap.size ≤ gb306))
           have n10_ := a0_ ((by rw [hg]; exact (below_size (by repeat (first | (with_reducible first | exact HB.out | apply b1_ | apply b2_ | apply b3_ | refine b4_ ?_ GE282.out | refine b4_ ?_ GE287.out) | exact HB.out))) : w.heap.size ≤ gb306))
           have n11_ := a0_ ((by rw [hg]; exact Nat.ne_of_lt (blk_lt (g := gb282) (o := .cells #[.bool true, .slice A0_1 l0_1.length c0_1] 26 (0, 0)) (by (with_reducible repeat (first | refine k1_ ?_ _ | refine k2_ ?_ | refine k3_ ?_ _)); exact BK282.out)) : gb282 ≠ gb306))
           have n12_ := a0_ ((by rw [hg]; exact Nat.ne_of_gt (blk_lt (g := gb282) (o := .cells #[.bool true, .slice A0_1 l0_1.length c0_1] 26 (0, 0)) (by (with_reducible repeat (first | refine k1_ ?_ _ | refine k2_ ?_ | refine k3_ ?_ _)); exact BK282.out)) : gb306 ≠ gb282))
           have n13_ := a0_ ((by rw [hg]; exact Nat.ne_of_lt (blk_lt (g := gb287) (o := .cells #[.bool t283, .slice Ao10 t284.length co10] 26 (0, 0)) (by (with_reducible repeat (first | refine k1_ ?_ _ | refine k2_ ?_ | refine k3_ ?_ _)); exact BK287.out)) : gb287 ≠ gb306))
           have n14_ := a0_ ((by rw [hg]; exact Nat.ne_of_gt (blk_lt (g := gb287) (o := .cells #[.bool t283, .slice Ao10 t284.length co10] 26 (0, 0)) (by (with_reducible repeat (first | refine k1_ ?_ _ | refine k2_ ?_ | refine k3_ ?_ _)); exact BK287.out)) : gb306 ≠ gb287))
           clear HO_283001
           clear HO_288001
           clear HO297
           clear HO301
           clear HO305
           clear BK282
           clear BK287
           clear HB
           have HO_283001 := n0_
           have HO_288001 := n1_
           have HO297 := n2_
           have HO301 := n3_
           have HO305 := n4_
           have BK282 := n5_
           have BK287 := n6_
           have HB := n7_
           have BK306 := n8_
           have GW306 := n9_
           have GE306 := n10_
           have NB282_306 := n11_
           have NB306_282 := n12_
           have NB287_306 := n13_
           have NB306_287 := n14_
           clear n0_ n1_ n2_ n3_ n4_ n5_ n6_ n7_ n8_ n9_ n10_ n11_ n12_ n13_ n14_
           clear hb hbox hg
           refine hK.out _ _ ⟨(blk_cell BK282.out 0).trans rfl, (blk_cell BK282.out 1).trans rfl⟩ (fun hHeld => ?_)
           clear hK K
           refine norm_ (a' := ?_) ?_ ?_
           rotate_left
           ·
            show Act.put _ (some 8) _ = _
            simp only [Act.put, s1_, s2_, s3_, i64_w, i32_w]
            rfl
           exact norm_ (by first | (simp only [putAll, Act.put, s1_, s2_, s3_]; done) | (simp only [putAll, Act.put, s1_, s2_, s3_]; rfl)) (hJ3_4_8 (v296, v300, v304, gb306) _ ⟨hHeld, (by (with_reducible repeat (first | apply v1_ | apply v2_ | apply v3_)); exact v4_ HO297.out (fun _ hk => ⟨hk.1.1, ⟨hk.1.2.1, ⟨hk.1.2.2, hk.2⟩⟩⟩)), (by (with_reducible repeat (first | apply v1_ | apply v2_ | apply v3_)); exact v4_ HO301.out (fun _ hk => ⟨hk.1.1, ⟨hk.1.2.1, ⟨hk.1.2.2, hk.2⟩⟩⟩)), (by (with_reducible repeat (first | apply v1_ | apply v2_ | apply v3_)); exact v4_ HO305.out (fun _ hk => ⟨hk.1.1, ⟨hk.1.2.1, ⟨hk.1.2.2, hk.2⟩⟩⟩)), (by (with_reducible repeat (first | apply v1_ | apply v2_ | apply v3_)); exact v4_ HO_283001.out (fun _ hk => ⟨hk.1.1, ⟨hk.1.2.1, ⟨hk.1.2.2, hk.2⟩⟩⟩)), (by (with_reducible repeat (first | apply v1_ | apply v2_ | apply v3_)); exact v4_ HO_288001.out (fun _ hk => ⟨hk.1.1, ⟨hk.1.2.1, ⟨hk.1.2.2, hk.2⟩⟩⟩)), (by (with_reducible repeat (first | refine k1_ ?_ _ | refine k2_ ?_ | refine k3_ ?_ _)); exact BK282.out), (by (with_reducible repeat (first | refine k1_ ?_ _ | refine k2_ ?_ | refine k3_ ?_ _)); exact BK287.out), (by (with_reducible repeat (first | refine k1_ ?_ _ | refine k2_ ?_ | refine k3_ ?_ _)); exact BK306.out), GW306.out, GE306.out, NB282_306.out, NB306_282.out, NB287_306.out, NB306_287.out, (by repeat (first | (with_reducible first | exact HB.out | apply b1_ | apply b2_ | apply b3_ | refine b4_ ?_ GE282.out | refine b4_ ?_ GE287.out | refine b4_ ?_ GE306.out) | exact HB.out))⟩)
          ·
           skip
           refine box_step ?hg (N := 9) ?hd (cs := #[.bool false, .slice none 0 0]) (t := 26) ?hr ?_; (case hd => rfl); (case hg => rfl); (case hr => first | (go_simp; done) | (go_simp; rfl))
           intro gb307 hg w37 hbox hb
           have n0_ := a0_ (Kd.V_below (Kd.V_elderB (by (with_reducible repeat (first | apply v1_ | apply v2_ | apply v3_)); exact HO_283001.out) gb307 (Nat.le_of_eq hg.symm)) hb)
           have n1_ := a0_ (Kd.V_below (Kd.V_elderB (by (with_reducible repeat (first | apply v1_ | apply v2_ | apply v3_)); exact HO_288001.out) gb307 (Nat.le_of_eq hg.symm)) hb)
           have n2_ := a0_ (Kd.V_below (Kd.V_elderB (by (with_reducible repeat (first | apply v1_ | apply v2_ | apply v3_)); exact HO297.out) gb307 (Nat.le_of_eq hg.symm)) hb)
           have n3_ := a0_ (Kd.V_below (Kd.V_elderB (by (with_reducible repeat (first | apply v1_ | apply v2_ | apply v3_)); exact HO301.out) gb307 (Nat.le_of_eq hg.symm)) hb)
           have n4_ := a0_ (Kd.V_below (Kd.V_elderB (by (with_reducible repeat (first | apply v1_ | apply v2_ | apply v3_)); exact HO305.out) gb307 (Nat.le_of_eq hg.symm)) hb)
           have n5_ := a0_ (blk_below (g := gb282) (o := .cells #[.bool true, .slice A0_1 l0_1.length c0_1] 26 (0, 0)) (by (with_reducible repeat (first | refine k1_ ?_ _ | refine k2_ ?_ | refine k3_ ?_ _)); exact BK282.out) hb)
           have n6_ := a0_ (blk_below (g := gb287) (o := .cells #[.bool t283, .slice Ao10 t284.length co10] 26 (0, 0)) (by (with_reducible repeat (first | refine k1_ ?_ _ | refine k2_ ?_ | refine k3_ ?_ _)); exact BK287.out) hb)
           have n7_ := a0_ (below_step (by repeat (first | (with_reducible first | exact HB.out | apply b1_ | apply b2_ | apply b3_ | refine b4_ ?_ GE282.out | refine b4_ ?_ GE287.out) | exact HB.out)) hb)
           have n8_ := a0_ (hbox)
           have n9_ := a0_ ((by rw [hg]; exact (below_size (by repeat (first | (with_reducible first | exact HB.out | apply b1_ | apply b2_ | apply b3_ | refine b4_ ?_ GE282.out | refine b4_ ?_ GE287.out) | exact HB.out))) : w.heap.size ≤ gb307))
           have n10_ := a0_ ((by rw [hg]; exact (below_size (by repeat (first | (with_reducible first | exact HB.out | apply b1_ | apply b2_ | apply b3_ | refine b4_ ?_ GE282.out | refine b4_ ?_ GE287.out) | exact HB.out))) : w.heap.size ≤ gb307))
           have n11_ := a0_ ((by rw [hg]; exact Nat.ne_of_lt (blk_lt (g := gb282) (o := .cells #[.bool true, .slice A0_1 l0_1.length c0_1] 26 (0, 0)) (by (with_reducible repeat (first | refine k1_ ?_ _ | refine k2_ ?_ | refine k3_ ?_ _)); exact BK282.out)) : gb282 ≠ gb307))
           have n12_ := a0_ ((by rw [hg]; exact Nat.ne_of_gt (blk_lt (g := gb282) (o := .cells #[.bool true, .slice A0_1 l0_1.length c0_1] 26 (0, 0)) (by (with_reducible repeat (first | refine k1_ ?_ _ | refine k2_ ?_ | refine k3_ ?_ _)); exact BK282.out)) : gb307 ≠ gb282))
           have n13_ := a0_ ((by rw [hg]; exact Nat.ne_of_lt (blk_lt (g := gb287) (o := .cells #[.bool t283, .slice Ao10 t284.length co10] 26 (0, 0)) (by (with_reducible repeat (first | refine k1_ ?_ _ | refine k2_ ?_ | refine k3_ ?_ _)); exact BK287.out)) : gb287 ≠ gb307))
           have n14_ := a0_ ((by rw [hg]; exact Nat.ne_of_gt (blk_lt (g := gb287) (o := .cells #[.bool t283, .slice Ao10 t284.length co10] 26 (0, 0)) (by (with_reducible repeat (first | refine k1_ ?_ _ | refine k2_ ?_ | refine k3_ ?_ _)); exact BK287.out)) : gb307 ≠ gb287))
           clear HO_283001
           clear HO_288001
           clear HO297
           clear HO301
           clear HO305
           clear BK282
           clear BK287
           clear HB
           have HO_283001 := n0_
           have HO_288001 := n1_
           have HO297 := n2_
           have HO301 := n3_
           have HO305 := n4_
           have BK282 := n5_
           have BK287 := n6_
           have HB := n7_
           have BK307 := n8_
           have GW307 := n9_
           have GE307 := n10_
           have NB282_307 := n11_
           have NB307_282 := n12_
           have NB287_307 := n13_
           have NB307_287 := n14_
           clear n0_ n1_ n2_ n3_ n4_ n5_ n6_ n7_ n8_ n9_ n10_ n11_ n12_ n13_ n14_
           clear hb hbox hg
           refine hK.out _ _ ⟨(blk_cell BK282.out 0).trans rfl, (blk_cell BK282.out 1).trans rfl⟩ (fun hHeld => ?_)
           clear hK K
           refine norm_ (a' := ?_) ?_ ?_
           rotate_left
           ·
            show Act.put _ (some 9) _ = _
            simp only [Act.put, s1_, s2_, s3_, i64_w, i32_w]
            rfl
           exact norm_ (by first | (simp only [putAll, Act.put, s1_, s2_, s3_]; done) | (simp only [putAll, Act.put, s1_, s2_, s3_]; rfl)) (hJ3_4_9 (v296, v300, v304, gb307) _ ⟨hHeld, (by (with_reducible repeat (first | apply v1_ | apply v2_ | apply v3_)); exact v4_ HO297.out (fun _ hk => ⟨hk.1.1, ⟨hk.1.2.1, ⟨hk.1.2.2, hk.2⟩⟩⟩)), (by (with_reducible repeat (first | apply v1_ | apply v2_ | apply v3_)); exact v4_ HO301.out (fun _ hk => ⟨hk.1.1, ⟨hk.1.2.1, ⟨hk.1.2.2, hk.2⟩⟩⟩)), (by (with_reducible repeat (first | apply v1_ | apply v2_ | apply v3_)); exact v4_ HO305.out (fun _ hk => ⟨hk.1.1, ⟨hk.1.2.1, ⟨hk.1.2.2, hk.2⟩⟩⟩)), (by (with_reducible repeat (first | apply v1_ | apply v2_ | apply v3_)); exact v4_ HO_283001.out (fun _ hk => ⟨hk.1.1, ⟨hk.1.2.1, ⟨hk.1.2.2, hk.2⟩⟩⟩)), (by (with_reducible repeat (first | apply v1_ | apply v2_ | apply v3_)); exact v4_ HO_288001.out (fun _ hk => ⟨hk.1.1, ⟨hk.1.2.1, ⟨hk.1.2.2, hk.2⟩⟩⟩)), (by (with_reducible repeat (first | refine k1_ ?_ _ | refine k2_ ?_ | refine k3_ ?_ _)); exact BK282.out), (by (with_reducible repeat (first | refine k1_ ?_ _ | refine k2_ ?_ | refine k3_ ?_ _)); exact BK287.out), (by (with_reducible repeat (first | refine k1_ ?_ _ | refine k2_ ?_ | refine k3_ ?_ _)); exact BK307.out), GW307.out, GE307.out, NB282_307.out, NB307_282.out, NB287_307.out, NB307_287.out, (by repeat (first | (with_reducible first | exact HB.out | apply b1_ | apply b2_ | apply b3_ | refine b4_ ?_ GE282.out | refine b4_ ?_ GE287.out | refine b4_ ?_ GE307.out) | exact HB.out))⟩)
        ·
         skip
         rintro ⟨v296, gb306, gb307⟩ w36 ⟨hS_, h0_, h1_, h2_, h3_, h4_, h5_, h6_, h7_, h8_, h9_, h10_, h11_, h12_, h13_, h14_, h15_, h16_, h17_, h18_, h19_, h20_, h21_⟩
         have n0_ : Aside0 (Kd.V (Kd.int .u32) 40 w36 w.heap.size (fun k_ => (P0_1_ k_ ∨ w.heap.size ≤ k_) ∧ k_ ≠ gb282 ∧ k_ ≠ gb287 ∧ k_ ≠ gb306 ∧ k_ ≠ gb307) v296 t295) := ⟨h0_⟩
         have n1_ : Aside0 (Kd.V (Kd.int .u32) 40 w36 w.heap.size (fun k_ => (P0_1_ k_ ∨ w.heap.size ≤ k_) ∧ k_ ≠ gb282 ∧ k_ ≠ gb287 ∧ k_ ≠ gb306 ∧ k_ ≠ gb307) (.slice A0_1 l0_1.length c0_1) l0_1) := ⟨h1_⟩
         have n2_ : Aside0 (Kd.V (Kd.int .u32) 40 w36 w.heap.size (fun k_ => (P0_1_ k_ ∨ w.heap.size ≤ k_) ∧ k_ ≠ gb282 ∧ k_ ≠ gb287 ∧ k_ ≠ gb306 ∧ k_ ≠ gb307) (.slice Ao10 t284.length co10) t284) := ⟨h2_⟩
         have n3_ : Aside0 (w36.heap[gb282]? = some (.cells #[.bool true, .slice A0_1 l0_1.length c0_1] 26 (0, 0))) := ⟨h3_⟩
         have n4_ : Aside0 (w36.heap[gb287]? = some (.cells #[.bool t283, .slice Ao10 t284.length co10] 26 (0, 0))) := ⟨h4_⟩
         have n5_ : Aside0 (w36.heap[gb306]? = some (.cells #[.bool false, .slice none 0 0] 26 (0, 0))) := ⟨h5_⟩
         have n6_ : Aside0 (w36.heap[gb307]? = some (.cells #[.bool false, .slice none 0 0] 26 (0, 0))) := ⟨h6_⟩
         have n7_ : Aside0 (w.heap.size ≤ gb306) := ⟨h7_⟩
         have n8_ : Aside0 (w.heap.size ≤ gb306) := ⟨h8_⟩
         have n9_ : Aside0 (gb282 ≠ gb306) := ⟨h9_⟩
         have n10_ : Aside0 (gb306 ≠ gb282) := ⟨h10_⟩
         have n11_ : Aside0 (gb287 ≠ gb306) := ⟨h11_⟩
         have n12_ : Aside0 (gb306 ≠ gb287) := ⟨h12_⟩
         have n13_ : Aside0 (gb307 ≠ gb306) := ⟨h13_⟩
         have n14_ : Aside0 (gb306 ≠ gb307) := ⟨h14_⟩
         have n15_ : Aside0 (w.heap.size ≤ gb307) := ⟨h15_⟩
         have n16_ : Aside0 (w.heap.size ≤ gb307) := ⟨h16_⟩
         have n17_ : Aside0 (gb282 ≠ gb307) := ⟨h17_⟩
         have n18_ : Aside0 (gb307 ≠ gb282) := ⟨h18_⟩
         have n19_ : Aside0 (gb287 ≠ gb307) := ⟨h19_⟩
         have n20_ : Aside0 (gb307 ≠ gb287) := ⟨h20_⟩
         have n21_ : Aside0 (Below w.heap.size w w36) := ⟨h21_⟩
         clear HO_283001
         clear HO_288001
         clear BK282
         clear BK287
         clear HB
         clear h0_ h1_ h2_ h3_ h4_ h5_ h6_ h7_ h8_ h9_ h10_ h11_ h12_ h13_ h14_ h15_ h16_ h17_ h18_ h19_ h20_ h21_
         have HO297 := n0_
         have HO_283001 := n1_
         have HO_288001 := n2_
         have BK282 := n3_
         have BK287 := n4_
         have BK306 := n5_
         have BK307 := n6_
         have GW306 := n7_
         have GE306 := n8_
         have NB282_306 := n9_
         have NB306_282 := n10_
         have NB287_306 := n11_
         have NB306_287 := n12_
         have NB307_306 := n13_
         have NB306_307 := n14_
         have GW307 := n15_
         have GE307 := n16_
         have NB282_307 := n17_
         have NB307_282 := n18_
         have NB287_307 := n19_
         have NB307_287 := n20_
         have HB := n21_
         clear n0_ n1_ n2_ n3_ n4_ n5_ n6_ n7_ n8_ n9_ n10_ n11_ n12_ n13_ n14_ n15_ n16_ n17_ n18_ n19_ n20_ n21_
         have hHeld : w36.cell? ⟨gb282, 0, none⟩ = some (.bool true) ∧ w36.cell? ⟨gb282, 1, none⟩ = some (.slice A0_1 l0_1.length c0_1) := hS_
         obtain ⟨Ao37, co37, eo37⟩ := Kd.V_slice HO297.out
         (first | subst eo37 | (injection eo37 with f1_ f2_ f3_; have f4_ := f1_.symm; have f5_ := f3_.symm; clear f1_ f2_ f3_; subst f4_; subst f5_))
         refine norm_ (a' := ?_) ?_ ?_
         rotate_left
         ·
          simp only [putAll, Act.put, s1_, s2_, s3_]
          rfl
         refine one_ (i := 4) (N := some 35) #[true, true, true, true, true, false, false, false, true, true, false, false] rfl rfl (one_of HT_.out (by kernel_rfl)) (by decide) (fun K hK => ?_)
         refine goes_ Tryd.func8 (by kernel_rfl) rfl #[.agg #[.bool true, .slice A0_1 l0_1.length c0_1], .agg #[.bool t294, .slice Ao37 t295.length co37]] (by rfl) rfl rfl (by (try simp only [List.map_toArray, List.map_cons, List.map_nil]); first | done | rfl | (simp only [List.length_drop, List.length_take]; rfl)) ?_
         with_reducible refine (spec_WideDiv.calls kj3 true _ _ l0_1 t294 _ _ t295 t298 t299 t302 t303 _ ?side1 ?side2 ?side3 ?side4 A29.out).mono ?_
         (case side1 => repeat (first | exact (Kd.V_reads' HO_283001.out).2.2 | (with_reducible refine Kd.C_alloc ?_ _) | (with_reducible refine Kd.C_drewN ?_ _) | (with_reducible refine Kd.C_drew ?_)))
         (case side2 => exact (Kd.V_reads' HO_283001.out).2.1)
         (case side3 => repeat (first | exact (Kd.V_reads' HO297.out).2.2 | (with_reducible refine Kd.C_alloc ?_ _) | (with_reducible refine Kd.C_drewN ?_ _) | (with_reducible refine Kd.C_drew ?_)))
         (case side4 => exact (Kd.V_reads' HO297.out).2.1)
         rintro e w38 ⟨v300, v304, rfl, ho0, ho1, hb⟩
         refine ⟨_, rfl, ?_⟩
         have n0_ := a0_ (Kd.V_below (by (with_reducible repeat (first | apply v1_ | apply v2_ | apply v3_)); exact HO_283001.out) hb)
         have n1_ := a0_ (Kd.V_below (by (with_reducible repeat (first | apply v1_ | apply v2_ | apply v3_)); exact HO_288001.out) hb)
         have n2_ := a0_ (Kd.V_below (by (with_reducible repeat (first | apply v1_ | apply v2_ | apply v3_)); exact HO297.out) hb)
         have n3_ := a0_ (Kd.V_lower (v4_ (ok' := fun k_ => (P0_1_ k_ ∨ w.heap.size ≤ k_) ∧ k_ ≠ gb282 ∧ k_ ≠ gb287 ∧ k_ ≠ gb306 ∧ k_ ≠ gb307) ho0 (fun k_ hk_ => ⟨(.inr (Nat.le_trans (below_size (by repeat (first | (with_reducible first | exact HB.out | apply b1_ | apply b2_ | apply b3_ | refine b4_ ?_ GE282.out | refine b4_ ?_ GE287.out | refine b4_ ?_ GE306.out | refine b4_ ?_ GE307.out) | exact HB.out))) hk_)), (Kd.freshB (g := gb282) (o := .cells #[.bool true, .slice A0_1 l0_1.length c0_1] 26 (0, 0)) (by (with_reducible repeat (first | refine k1_ ?_ _ | refine k2_ ?_ | refine k3_ ?_ _)); exact BK282.out) k_ hk_), (Kd.freshB (g := gb287) (o := .cells #[.bool t283, .slice Ao10 t284.length co10] 26 (0, 0)) (by (with_reducible repeat (first | refine k1_ ?_ _ | refine k2_ ?_ | refine k3_ ?_ _)); exact BK287.out) k_ hk_), (Kd.freshB (g := gb306) (o := .cells #[.bool false, .slice none 0 0] 26 (0, 0)) (by (with_reducible repeat (first | refine k1_ ?_ _ | refine k2_ ?_ | refine k3_ ?_ _)); exact BK306.out) k_ hk_), (Kd.freshB (g := gb307) (o := .cells #[.bool false, .slice none 0 0] 26 (0, 0)) (by (with_reducible repeat (first | refine k1_ ?_ _ | refine k2_ ?_ | refine k3_ ?_ _)); exact BK307.out) k_ hk_)⟩)) (below_size (by repeat (first | (with_reducible first | exact HB.out | apply b1_ | apply b2_ | apply b3_ | refine b4_ ?_ GE282.out | refine b4_ ?_ GE287.out | refine b4_ ?_ GE306.out | refine b4_ ?_ GE307.out) | exact HB.out))))
         have n4_ := a0_ (Kd.V_lower (v4_ (ok' := fun k_ => (P0_1_ k_ ∨ w.heap.size ≤ k_) ∧ k_ ≠ gb282 ∧ k_ ≠ gb287 ∧ k_ ≠ gb306 ∧ k_ ≠ gb307) ho1 (fun k_ hk_ => ⟨(.inr (Nat.le_trans (below_size (by repeat (first | (with_reducible first | exact HB.out | apply b1_ | apply b2_ | apply b3_ | refine b4_ ?_ GE282.out | refine b4_ ?_ GE287.out | refine b4_ ?_ GE306.out | refine b4_ ?_ GE307.out) | exact HB.out))) hk_)), (Kd.freshB (g := gb282) (o := .cells #[.bool true, .slice A0_1 l0_1.length c0_1] 26 (0, 0)) (by (with_reducible repeat (first | refine k1_ ?_ _ | refine k2_ ?_ | refine k3_ ?_ _)); exact BK282.out) k_ hk_), (Kd.freshB (g := gb287) (o := .cells #[.bool t283, .slice Ao10 t284.length co10] 26 (0, 0)) (by (with_reducible repeat (first | refine k1_ ?_ _ | refine k2_ ?_ | refine k3_ ?_ _)); exact BK287.out) k_ hk_), (Kd.freshB (g := gb306) (o := .cells #[.bool false, .slice none 0 0] 26 (0, 0)) (by (with_reducible repeat (first | refine k1_ ?_ _ | refine k2_ ?_ | refine k3_ ?_ _)); exact BK306.out) k_ hk_), (Kd.freshB (g := gb307) (o := .cells #[.bool false, .slice none 0 0] 26 (0, 0)) (by (with_reducible repeat (first | refine k1_ ?_ _ | refine k2_ ?_ | refine k3_ ?_ _)); exact BK307.out) k_ hk_)⟩)) (below_size (by repeat (first | (with_reducible first | exact HB.out | apply b1_ | apply b2_ | apply b3_ | refine b4_ ?_ GE282.out | refine b4_ ?_ GE287.out | refine b4_ ?_ GE306.out | refine b4_ ?_ GE307.out) | exact HB.out))))
         have n5_ := a0_ (blk_below (g := gb282) (o := .cells #[.bool true, .slice A0_1 l0_1.length c0_1] 26 (0, 0)) (by (with_reducible repeat (first | refine k1_ ?_ _ | refine k2_ ?_ | refine k3_ ?_ _)); exact BK282.out) hb)
         have n6_ := a0_ (blk_below (g := gb287) (o := .cells #[.bool t283, .slice Ao10 t284.length co10] 26 (0, 0)) (by (with_reducible repeat (first | refine k1_ ?_ _ | refine k2_ ?_ | refine k3_ ?_ _)); exact BK287.out) hb)
         have n7_ := a0_ (blk_below (g := gb306) (o := .cells #[.bool false, .slice none 0 0] 26 (0, 0)) (by (with_reducible repeat (first | refine k1_ ?_ _ | refine k2_ ?_ | refine k3_ ?_ _)); exact BK306.out) hb)
         have n8_ := a0_ (blk_below (g := gb307) (o := .cells #[.bool false, .slice none 0 0] 26 (0, 0)) (by (with_reducible repeat (first | refine k1_ ?_ _ | refine k2_ ?_ | refine k3_ ?_ _)); exact BK307.out) hb)
         have n9_ := a0_ (below_step (by repeat (first | (with_reducible first | exact HB.out | apply b1_ | apply b2_ | apply b3_ | refine b4_ ?_ GE282.out | refine b4_ ?_ GE287.out | refine b4_ ?_ GE306.out | refine b4_ ?_ GE307.out) | exact HB.out)) hb)
         clear HO_283001
         clear HO_288001
         clear HO297
         clear BK282
         clear BK287
         clear BK306
         clear BK307
         clear HB
         have HO_283001 := n0_
         have HO_288001 := n1_
         have HO297 := n2_
         have HO301 := n3_
         have HO305 := n4_
         have BK282 := n5_
         have BK287 := n6_
         have BK306 := n7_
         have BK307 := n8_
         have HB := n9_
         clear n0_ n1_ n2_ n3_ n4_ n5_ n6_ n7_ n8_ n9_
         (try clear hb)
         (try clear hb2)
         (try clear hk)
         (try clear hi)
         (try clear ho0)
         (try clear ho1)
         refine hK.out _ _ ⟨(blk_cell BK282.out 0).trans rfl, (blk_cell BK282.out 1).trans rfl⟩ (fun hHeld => ?_)
         clear hK K
         refine norm_ (a' := ?_) ?_ ?_
         rotate_left
         ·
          show Act.put _ (some 35) _ = _
          simp only [Act.put, s1_, s2_, s3_, i64_w, i32_w]
          rfl
         refine pure_ (i := 5) (N := some 30) (v := ?_) (a' := ?_) #[true, true, true, true, true, true, false, false, true, true, false, false] rfl rfl (any_of HT_.out (by kernel_rfl)) (fun _ _ _ h => h) (Or.inl ⟨by rfl, ?_⟩) ?_ ?_
         rotate_left
         ·
          intro w'
          go_simp
          with_reducible rfl
         rotate_left
         ·
          simp only [Act.put, s1_, s2_, s3_, i64_w, i32_w]
          rfl
         refine pure_ (i := 6) (N := some 36) (v := ?_) (a' := ?_) #[true, true, true, true, true, true, true, false, true, true, false, false] rfl rfl (any_of HT_.out (by kernel_rfl)) (fun _ _ _ h => h) (Or.inl ⟨by rfl, ?_⟩) ?_ ?_
         rotate_left
         ·
          intro w'
          go_simp
          with_reducible rfl
         rotate_left
         ·
          simp only [Act.put, s1_, s2_, s3_, i64_w, i32_w]
          rfl
         refine pure_ (i := 7) (N := some 37) (v := ?_) (a' := ?_) #[true, true, true, true, true, true, true, true, true, true, false, false] rfl rfl (any_of HT_.out (by kernel_rfl)) (fun _ _ _ h => h) (Or.inl ⟨by rfl, ?_⟩) ?_ ?_
         rotate_left
         ·
          intro w'
          go_simp
          with_reducible rfl
         rotate_left
         ·
          simp only [Act.put, s1_, s2_, s3_, i64_w, i32_w]
          rfl
         exact norm_ (by first | (simp only [putAll, Act.put, s1_, s2_, s3_]; done) | (simp only [putAll, Act.put, s1_, s2_, s3_]; rfl)) (hJ3_4_8_9 (.slice Ao37 t295.length co37, v300, v304, gb306, gb307) _ ⟨hHeld, (by (with_reducible repeat (first | apply v1_ | apply v2_ | apply v3_)); exact HO297.out), (by (with_reducible repeat (first | apply v1_ | apply v2_ | apply v3_)); exact HO301.out), (by (with_reducible repeat (first | apply v1_ | apply v2_ | apply v3_)); exact HO305.out), (by (with_reducible repeat (first | apply v1_ | apply v2_ | apply v3_)); exact HO_283001.out), (by (with_reducible repeat (first | apply v1_ | apply v2_ | apply v3_)); exact HO_288001.out), (by (with_reducible repeat (first | refine k1_ ?_ _ | refine k2_ ?_ | refine k3_ ?_ _)); exact BK282.out), (by (with_reducible repeat (first | refine k1_ ?_ _ | refine k2_ ?_ | refine k3_ ?_ _)); exact BK287.out), (by (with_reducible repeat (first | refine k1_ ?_ _ | refine k2_ ?_ | refine k3_ ?_ _)); exact BK306.out), (by (with_reducible repeat (first | refine k1_ ?_ _ | refine k2_ ?_ | refine k3_ ?_ _)); exact BK307.out), GW306.out, GE306.out, NB282_306.out, NB306_282.out, NB287_306.out, NB306_287.out, NB307_306.out, NB306_307.out, GW307.out, GE307.out, NB282_307.out, NB307_282.out, NB287_307.out, NB307_287.out, (by repeat (first | (with_reducible first | exact HB.out | apply b1_ | apply b2_ | apply b3_ | refine b4_ ?_ GE282.out | refine b4_ ?_ GE287.out | refine b4_ ?_ GE306.out | refine b4_ ?_ GE307.out) | exact HB.out))⟩)
       ·
        skip
        rintro ⟨v296, v300, v304, gb307⟩ w37 ⟨hS_, h0_, h1_, h2_, h3_, h4_, h5_, h6_, h7_, h8_, h9_, h10_, h11_, h12_, h13_, h14_⟩
        have n0_ : Aside0 (Kd.V (Kd.int .u32) 40 w37 w.heap.size (fun k_ => (P0_1_ k_ ∨ w.heap.size ≤ k_) ∧ k_ ≠ gb282 ∧ k_ ≠ gb287 ∧ k_ ≠ gb307) v296 t295) := ⟨h0_⟩
        have n1_ : Aside0 (Kd.V (Kd.int .u32) 40 w37 w.heap.size (fun k_ => (P0_1_ k_ ∨ w.heap.size ≤ k_) ∧ k_ ≠ gb282 ∧ k_ ≠ gb287 ∧ k_ ≠ gb307) v300 t299) := ⟨h1_⟩
        have n2_ : Aside0 (Kd.V (Kd.int .u32) 40 w37 w.heap.size (fun k_ => (P0_1_ k_ ∨ w.heap.size ≤ k_) ∧ k_ ≠ gb282 ∧ k_ ≠ gb287 ∧ k_ ≠ gb307) v304 t303) := ⟨h2_⟩
        have n3_ : Aside0 (Kd.V (Kd.int .u32) 40 w37 w.heap.size (fun k_ => (P0_1_ k_ ∨ w.heap.size ≤ k_) ∧ k_ ≠ gb282 ∧ k_ ≠ gb287 ∧ k_ ≠ gb307) (.slice A0_1 l0_1.length c0_1) l0_1) := ⟨h3_⟩
        have n4_ : Aside0 (Kd.V (Kd.int .u32) 40 w37 w.heap.size (fun k_ => (P0_1_ k_ ∨ w.heap.size ≤ k_) ∧ k_ ≠ gb282 ∧ k_ ≠ gb287 ∧ k_ ≠ gb307) (.slice Ao10 t284.length co10) t284) := ⟨h4_⟩
        have n5_ : Aside0 (w37.heap[gb282]? = some (.cells #[.bool true, .slice A0_1 l0_1.length c0_1] 26 (0, 0))) := ⟨h5_⟩
        have n6_ : Aside0 (w37.heap[gb287]? = some (.cells #[.bool t283, .slice Ao10 t284.length co10] 26 (0, 0))) := ⟨h6_⟩
        have n7_ : Aside0 (w37.heap[gb307]? = some (.cells #[.bool false, .slice none 0 0] 26 (0, 0))) := ⟨h7_⟩
        have n8_ : Aside0 (w.heap.size ≤ gb307) := ⟨h8_⟩
        have n9_ : Aside0 (w.heap.size ≤ gb307) := ⟨h9_⟩
        have n10_ : Aside0 (gb282 ≠ gb307) := ⟨h10_⟩
        have n11_ : Aside0 (gb307 ≠ gb282) := ⟨h11_⟩
        have n12_ : Aside0 (gb287 ≠ gb307) := ⟨h12_⟩
        have n13_ : Aside0 (gb307 ≠ gb287) := ⟨h13_⟩
        have n14_ : Aside0 (Below w.heap.size w w37) := ⟨h14_⟩
        clear HO_283001
        clear HO_288001
        clear BK282
        clear BK287
        clear HB
        clear h0_ h1_ h2_ h3_ h4_ h5_ h6_ h7_ h8_ h9_ h10_ h11_ h12_ h13_ h14_
        have HO297 := n0_
        have HO301 := n1_
        have HO305 := n2_
        have HO_283001 := n3_
        have HO_288001 := n4_
        have BK282 := n5_
        have BK287 := n6_
        have BK307 := n7_
        have GW307 := n8_
        have GE307 := n9_
        have NB282_307 := n10_
        have NB307_282 := n11_
        have NB287_307 := n12_
        have NB307_287 := n13_
        have HB := n14_
        clear n0_ n1_ n2_ n3_ n4_ n5_ n6_ n7_ n8_ n9_ n10_ n11_ n12_ n13_ n14_
        have hHeld : w37.cell? ⟨gb282, 0, none⟩ = some (.bool true) ∧ w37.cell? ⟨gb282, 1, none⟩ = some (.slice A0_1 l0_1.length c0_1) := hS_
        refine norm_ (a' := ?_) ?_ ?_
        rotate_left
        ·
         simp only [putAll, Act.put, s1_, s2_, s3_]
         rfl
        refine one_ (i := 8) (N := some 8) #[true, true, true, true, true, true, true, true, true, true, false, false] rfl rfl (one_of HT_.out (by kernel_rfl)) (by decide) (fun K hK => ?_)
        refine box_step ?hg (N := 8) ?hd (cs := #[.bool false, .slice none 0 0]) (t := 26) ?hr ?_; (case hd => rfl); (case hg => rfl); (case hr => first | (go_simp; done) | (go_simp; rfl))
        intro gb306 hg w38 hbox hb
        have n0_ := a0_ (Kd.V_below (Kd.V_elderB (by (with_reducible repeat (first | apply v1_ | apply v2_ | apply v3_)); exact HO_283001.out) gb306 (Nat.le_of_eq hg.symm)) hb)
        have n1_ := a0_ (Kd.V_below (Kd.V_elderB (by (with_reducible repeat (first | apply v1_ | apply v2_ | apply v3_)); exact HO_288001.out) gb306 (Nat.le_of_eq hg.symm)) hb)
        have n2_ := a0_ (Kd.V_below (Kd.V_elderB (by (with_reducible repeat (first | apply v1_ | apply v2_ | apply v3_)); exact HO297.out) gb306 (Nat.le_of_eq hg.symm)) hb)
        have n3_ := a0_ (Kd.V_below (Kd.V_elderB (by (with_reducible repeat (first | apply v1_ | apply v2_ | apply v3_)); exact HO301.out) gb306 (Nat.le_of_eq hg.symm)) hb)
        have n4_ := a0_ (Kd.V_below (Kd.V_elderB (by (with_reducible repeat (first | apply v1_ | apply v2_ | apply v3_)); exact HO305.out) gb306 (Nat.le_of_eq hg.symm)) hb)
        have n5_ := a0_ (blk_below (g := gb282) (o := .cells #[.bool true, .slice A0_1 l0_1.length c0_1] 26 (0, 0)) (by (with_reducible repeat (first | refine k1_ ?_ _ | refine k2_ ?_ | refine k3_ ?_ _)); exact BK282.out) hb)
        have n6_ := a0_ (blk_below (g := gb287) (o := .cells #[.bool t283, .slice Ao10 t284.length co10] 26 (0, 0)) (by (with_reducible repeat (first | refine k1_ ?_ _ | refine k2_ ?_ | refine k3_ ?_ _)); exact BK287.out) hb)
        have n7_ := a0_ (blk_below (g := gb307) (o := .cells #[.bool false, .slice none 0 0] 26 (0, 0)) (by (with_reducible repeat (first | refine k1_ ?_ _ | refine k2_ ?_ | refine k3_ ?_ _)); exact BK307.out) hb)
        have n8_ := a0_ (below_step (by repeat (first | (with_reducible first | exact HB.out | apply b1_ | apply b2_ | apply b3_ | refine b4_ ?_ GE282.out | refine b4_ ?_ GE287.out | refine b4_ ?_ GE307.out) | exact HB.out)) hb)
        have n9_ := a0_ (hbox)
        have n10_ := a0_ ((by rw [hg]; exact (below_size (by repeat (first | (with_reducible first | exact HB.out | apply b1_ | apply b2_ | apply b3_ | refine b4_ ?_ GE282.out | refine b4_ ?_ GE287.out | refine b4_ ?_ GE307.out) | exact HB.out))) : w.heap.size ≤ gb306))
        have n11_ := a0_ ((by rw [hg]; exact (below_size (by repeat (first | (with_reducible first | exact HB.out | apply b1_ | apply b2_ | apply b3_ | refine b4_ ?_ GE282.out | refine b4_ ?_ GE287.out | refine b4_ ?_ GE307.out) | exact HB.out))) : w.heap.size ≤ gb306))
        have n12_ := a0_ ((by rw [hg]; exact Nat.ne_of_lt (blk_lt (g := gb282) (o := .cells #[.bool true, .slice A0_1 l0_1.length c0_1] 26 (0, 0)) (by (with_reducible repeat (first | refine k1_ ?_ _ | refine k2_ ?_ | refine k3_ ?_ _)); exact BK282.out)) : gb282 ≠ gb306))
        have n13_ := a0_ ((by rw [hg]; exact Nat.ne_of_gt (blk_lt (g := gb282) (o := .cells #[.bool true, .slice A0_1 l0_1.length c0_1] 26 (0, 0)) (by (with_reducible repeat (first | refine k1_ ?_ _ | refine k2_ ?_ | refine k3_ ?_ _)); exact BK282.out)) : gb306 ≠ gb282))
        have n14_ := a0_ ((by rw [hg]; exact Nat.ne_of_lt (blk_lt (g := gb287) (o := .cells #[.bool t283, .slice Ao10 t284.length co10] 26 (0, 0)) (by (with_reducible repeat (first | refine k1_ ?_ _ | refine k2_ ?_ | refine k3_ ?_ _)); exact BK287.out)) : gb287 ≠ gb306))
        have n15_ := a0_ ((by rw [hg]; exact Nat.ne_of_gt (blk_lt (g := gb287) (o := .cells #[.bool t283, .slice Ao10 t284.length co10] 26 (0, 0)) (by (with_reducible repeat (first | refine k1_ ?_ _ | refine k2_ ?_ | refine k3_ ?_ _)); exact BK287.out)) : gb306 ≠ gb287))
        have n16_ := a0_ ((by rw [hg]; exact Nat.ne_of_lt (blk_lt (g := gb307) (o := .cells #[.bool false, .slice none 0 0] 26 (0, 0)) (by (with_reducible repeat (first | refine k1_ ?_ _ | refine k2_ ?_ | refine k3_ ?_ _)); exact BK307.out)) : gb307 ≠ gb306))
        have n17_ := a0_ ((by rw [hg]; exact Nat.ne_of_gt (blk_lt (g := gb307) (o := .cells #[.bool false, .slice none 0 0] 26 (0, 0)) (by (with_reducible repeat (first | refine k1_ ?_ _ | refine k2_ ?_ | refine k3_ ?_ _)); exact BK307.out)) : gb306 ≠ gb307))
        clear HO_283001
        clear HO_288001
        clear HO297
        clear HO301
        clear HO305
        clear BK282
        clear BK287
        clear BK307
        clear HB
        have HO_283001 := n0_
        have HO_288001 := n1_
        have HO297 := n2_
        have HO301 := n3_
        have HO305 := n4_
        have BK282 := n5_
        have BK287 := n6_
        have BK307 := n7_
        have HB := n8_
        have BK306 := n9_
        have GW306 := n10_
        have GE306 := n11_
        have NB282_306 := n12_
        have NB306_282 := n13_
        have NB287_306 := n14_
        have NB306_287 := n15_
        have NB307_306 := n16_
        have NB306_307 := n17_
        clear n0_ n1_ n2_ n3_ n4_ n5_ n6_ n7_ n8_ n9_ n10_ n11_ n12_ n13_ n14_ n15_ n16_ n17_
        clear hb hbox hg
        refine hK.out _ _ ⟨(blk_cell BK282.out 0).trans rfl, (blk_cell BK282.out 1).trans rfl⟩ (fun hHeld => ?_)
        clear hK K
        refine norm_ (a' := ?_) ?_ ?_
        rotate_left
        ·
         show Act.put _ (some 8) _ = _
         simp only [Act.put, s1_, s2_, s3_, i64_w, i32_w]
         rfl
        exact norm_ (by first | (simp only [putAll, Act.put, s1_, s2_, s3_]; done) | (simp only [putAll, Act.put, s1_, s2_, s3_]; rfl)) (hJ3_4_8_9 (v296, v300, v304, gb306, gb307) _ ⟨hHeld, (by (with_reducible repeat (first | apply v1_ | apply v2_ | apply v3_)); exact v4_ HO297.out (fun _ hk => ⟨hk.1.1, ⟨hk.1.2.1, ⟨hk.1.2.2.1, ⟨hk.2, hk.1.2.2.2⟩⟩⟩⟩)), (by (with_reducible repeat (first | apply v1_ | apply v2_ | apply v3_)); exact v4_ HO301.out (fun _ hk => ⟨hk.1.1, ⟨hk.1.2.1, ⟨hk.1.2.2.1, ⟨hk.2, hk.1.2.2.2⟩⟩⟩⟩)), (by (with_reducible repeat (first | apply v1_ | apply v2_ | apply v3_)); exact v4_ HO305.out (fun _ hk => ⟨hk.1.1, ⟨hk.1.2.1, ⟨hk.1.2.2.1, ⟨hk.2, hk.1.2.2.2⟩⟩⟩⟩)), (by (with_reducible repeat (first | apply v1_ | apply v2_ | apply v3_)); exact v4_ HO_283001.out (fun _ hk => ⟨hk.1.1, ⟨hk.1.2.1, ⟨hk.1.2.2.1, ⟨hk.2, hk.1.2.2.2⟩⟩⟩⟩)), (by (with_reducible repeat (first | apply v1_ | apply v2_ | apply v3_)); exact v4_ HO_288001.out (fun _ hk => ⟨hk.1.1, ⟨hk.1.2.1, ⟨hk.1.2.2.1, ⟨hk.2, hk.1.2.2.2⟩⟩⟩⟩)), (by (with_reducible repeat (first | refine k1_ ?_ _ | refine k2_ ?_ | refine k3_ ?_ _)); exact BK282.out), (by (with_reducible repeat (first | refine k1_ ?_ _ | refine k2_ ?_ | refine k3_ ?_ _)); exact BK287.out), (by (with_reducible repeat (first | refine k1_ ?_ _ | refine k2_ ?_ | refine k3_ ?_ _)); exact BK306.out), (by (with_reducible repeat (first | refine k1_ ?_ _ | refine k2_ ?_ | refine k3_ ?_ _)); exact BK307.out), GW306.out, GE306.out, NB282_306.out, NB306_282.out, NB287_306.out, NB306_287.out, NB307_306.out, NB306_307.out, GW307.out, GE307.out, NB282_307.out, NB307_282.out, NB287_307.out, NB307_287.out, (by repeat (first | (with_reducible first | exact HB.out | apply b1_ | apply b2_ | apply b3_ | refine b4_ ?_ GE282.out | refine b4_ ?_ GE287.out | refine b4_ ?_ GE307.out | refine b4_ ?_ GE306.out) | exact HB.out))⟩)
      ·
       skip
       rintro ⟨v296, v300, v304, gb306⟩ w37 ⟨hS_, h0_, h1_, h2_, h3_, h4_, h5_, h6_, h7_, h8_, h9_, h10_, h11_, h12_, h13_, h14_⟩
       have n0_ : Aside0 (Kd.V (Kd.int .u32) 40 w37 w.heap.size (fun k_ => (P0_1_ k_ ∨ w.heap.size ≤ k_) ∧ k_ ≠ gb282 ∧ k_ ≠ gb287 ∧ k_ ≠ gb306) v296 t295) := ⟨h0_⟩
       have n1_ : Aside0 (Kd.V (Kd.int .u32) 40 w37 w.heap.size (fun k_ => (P0_1_ k_ ∨ w.heap.size ≤ k_) ∧ k_ ≠ gb282 ∧ k_ ≠ gb287 ∧ k_ ≠ gb306) v300 t299) := ⟨h1_⟩
       have n2_ : Aside0 (Kd.V (Kd.int .u32) 40 w37 w.heap.size (fun k_ => (P0_1_ k_ ∨ w.heap.size ≤ k_) ∧ k_ ≠ gb282 ∧ k_ ≠ gb287 ∧ k_ ≠ gb306) v304 t303) := ⟨h2_⟩
       have n3_ : Aside0 (Kd.V (Kd.int .u32) 40 w37 w.heap.size (fun k_ => (P0_1_ k_ ∨ w.heap.size ≤ k_) ∧ k_ ≠ gb282 ∧ k_ ≠ gb287 ∧ k_ ≠ gb306) (.slice A0_1 l0_1.length c0_1) l0_1) := ⟨h3_⟩
       have n4_ : Aside0 (Kd.V (Kd.int .u32) 40 w37 w.heap.size (fun k_ => (P0_1_ k_ ∨ w.heap.size ≤ k_) ∧ k_ ≠ gb282 ∧ k_ ≠ gb287 ∧ k_ ≠ gb306) (.slice Ao10 t284.length co10) t284) := ⟨h4_⟩
       have n5_ : Aside0 (w37.heap[gb282]? = some (.cells #[.bool true, .slice A0_1 l0_1.length c0_1] 26 (0, 0))) := ⟨h5_⟩
       have n6_ : Aside0 (w37.heap[gb287]? = some (.cells #[.bool t283, .slice Ao10 t284.length co10] 26 (0, 0))) := ⟨h6_⟩
       have n7_ : Aside0 (w37.heap[gb306]? = some (.cells #[.bool false, .slice none 0 0] 26 (0, 0))) := ⟨h7_⟩
       have n8_ : Aside0 (w.heap.size ≤ gb306) := ⟨h8_⟩
       have n9_ : Aside0 (w.heap.size ≤ gb306) := ⟨h9_⟩
       have n10_ : Aside0 (gb282 ≠ gb306) := ⟨h10_⟩
       have n11_ : Aside0 (gb306 ≠ gb282) := ⟨h11_⟩
       have n12_ : Aside0 (gb287 ≠ gb306) := ⟨h12_⟩
       have n13_ : Aside0 (gb306 ≠ gb287) := ⟨h13_⟩
       have n14_ : Aside0 (Below w.heap.size w w37) := ⟨h14_⟩
       clear HO_283001
       clear HO_288001
       clear BK282
       clear BK287
       clear HB
       clear h0_ h1_ h2_ h3_ h4_ h5_ h6_ h7_ h8_ h9_ h10_ h11_ h12_ h13_ h14_
       have HO297 := n0_
       have HO301 := n1_
       have HO305 := n2_
       have HO_283001 := n3_
       have HO_288001 := n4_
       have BK282 := n5_
       have BK287 := n6_
       have BK306 := n7_
       have GW306 := n8_
       have GE306 := n9_
       have NB282_306 := n10_
       have NB306_282 := n11_
       have NB287_306 := n12_
       have NB306_287 := n13_
       have HB := n14_
       clear n0_ n1_ n2_ n3_ n4_ n5_ n6_ n7_ n8_ n9_ n10_ n11_ n12_ n13_ n14_
       have hHeld : w37.cell? ⟨gb282, 0, none⟩ = some (.bool true) ∧ w37.cell? ⟨gb282, 1, none⟩ = some (.slice A0_1 l0_1.length c0_1) := hS_
       refine norm_ (a' := ?_) ?_ ?_
       rotate_left
       ·
        simp only [putAll, Act.put, s1_, s2_, s3_]
        rfl
       refine one_ (i := 9) (N := some 9) #[true, true, true, true, true, true, true, true, true, true, false, false] rfl rfl (one_of HT_.out (by kernel_rfl)) (by decide) (fun K hK => ?_)
       refine box_step ?hg (N := 9) ?hd (cs := #[.bool false, .slice none 0 0]) (t := 26) ?hr ?_; (case hd => rfl); (case hg => rfl); (case hr => first | (go_simp; done) | (go_simp; rfl))
       intro gb307 hg w38 hbox hb
       have n0_ := a0_ (Kd.V_below (Kd.V_elderB (by (with_reducible repeat (first | apply v1_ | apply v2_ | apply v3_)); exact HO_283001.out) gb307 (Nat.le_of_eq hg.symm)) hb)
       have n1_ := a0_ (Kd.V_below (Kd.V_elderB (by (with_reducible repeat (first | apply v1_ | apply v2_ | apply v3_)); exact HO_288001.out) gb307 (Nat.le_of_eq hg.symm)) hb)
       have n2_ := a0_ (Kd.V_below (Kd.V_elderB (by (with_reducible repeat (first | apply v1_ | apply v2_ | apply v3_)); exact HO297.out) gb307 (Nat.le_of_eq hg.symm)) hb)
       have n3_ := a0_ (Kd.V_below (Kd.V_elderB (by (with_reducible repeat (first | apply v1_ | apply v2_ | apply v3_)); exact HO301.out) gb307 (Nat.le_of_eq hg.symm)) hb)
       have n4_ := a0_ (Kd.V_below (Kd.V_elderB (by (with_reducible repeat (first | apply v1_ | apply v2_ | apply v3_)); exact HO305.out) gb307 (Nat.le_of_eq hg.symm)) hb)
       have n5_ := a0_ (blk_below (g := gb282) (o := .cells #[.bool true, .slice A0_1 l0_1.length c0_1] 26 (0, 0)) (by (with_reducible repeat (first | refine k1_ ?_ _ | refine k2_ ?_ | refine k3_ ?_ _)); exact BK282.out) hb)
       have n6_ := a0_ (blk_below (g := gb287) (o := .cells #[.bool t283, .slice Ao10 t284.length co10] 26 (0, 0)) (by (with_reducible repeat (first | refine k1_ ?_ _ | refine k2_ ?_ | refine k3_ ?_ _)); exact BK287.out) hb)
       have n7_ := a0_ (blk_below (g := gb306) (o := .cells #[.bool false, .slice none 0 0] 26 (0, 0)) (by (with_reducible repeat (first | refine k1_ ?_ _ | refine k2_ ?_ | refine k3_ ?_ _)); exact BK306.out) hb)
       have n8_ := a0_ (below_step (by repeat (first | (with_reducible first | exact HB.out | apply b1_ | apply b2_ | apply b3_ | refine b4_ ?_ GE282.out | refine b4_ ?_ GE287.out | refine b4_ ?_ GE306.out) | exact HB.out)) hb)
       have n9_ := a0_ (hbox)
       have n10_ := a0_ ((by rw [hg]; exact (below_size (by repeat (first | (with_reducible first | exact HB.out | apply b1_ | apply b2_ | apply b3_ | refine b4_ ?_ GE282.out | refine b4_ ?_ GE287.out | refine b4_ ?_ GE306.out) | exact HB.out))) : w.heap.size ≤ gb307))
       have n11_ := a0_ ((by rw [hg]; exact (below_size (by repeat (first | (with_reducible first | exact HB.out | apply b1_ | apply b2_ | apply b3_ | refine b4_ ?_ GE282.out | refine b4_ ?_ GE287.out | refine b4_ ?_ GE306.out) | exact HB.out))) : w.heap.size ≤ gb307))
       have n12_ := a0_ ((by rw [hg]; exact Nat.ne_of_lt (blk_lt (g := gb282) (o := .cells #[.bool true, .slice A0_1 l0_1.length c0_1] 26 (0, 0)) (by (with_reducible repeat (first | refine k1_ ?_ _ | refine k2_ ?_ | refine k3_ ?_ _)); exact BK282.out)) : gb282 ≠ gb307))
       have n13_ := a0_ ((by rw [hg]; exact Nat.ne_of_gt (blk_lt (g := gb282) (o := .cells #[.bool true, .slice A0_1 l0_1.length c0_1] 26 (0, 0)) (by (with_reducible repeat (first | refine k1_ ?_ _ | refine k2_ ?_ | refine k3_ ?_ _)); exact BK282.out)) : gb307 ≠ gb282))
       have n14_ := a0_ ((by rw [hg]; exact Nat.ne_of_lt (blk_lt (g := gb287) (o := .cells #[.bool t283, .slice Ao10 t284.length co10] 26 (0, 0)) (by (with_reducible repeat (first | refine k1_ ?_ _ | refine k2_ ?_ | refine k3_ ?_ _)); exact BK287.out)) : gb287 ≠ gb307))
       have n15_ := a0_ ((by rw [hg]; exact Nat.ne_of_gt (blk_lt (g := gb287) (o := .cells #[.bool t283, .slice Ao10 t284.length co10] 26 (0, 0)) (by (with_reducible repeat (first | refine k1_ ?_ _ | refine k2_ ?_ | refine k3_ ?_ _)); exact BK287.out)) : gb307 ≠ gb287))
       have n16_ := a0_ ((by rw [hg]; exact Nat.ne_of_lt (blk_lt (g := gb306) (o := .cells #[.bool false, .slice none 0 0] 26 (0, 0)) (by (with_reducible repeat (first | refine k1_ ?_ _ | refine k2_ ?_ | refine k3_ ?_ _)); exact BK306.out)) : gb306 ≠ gb307))
       have n17_ := a0_ ((by rw [hg]; exact Nat.ne_of_gt (blk_lt (g := gb306) (o := .cells #[.bool false, .slice none 0 0] 26 (0, 0)) (by (with_reducible repeat (first | refine k1_ ?_ _ | refine k2_ ?_ | refine k3_ ?_ _)); exact BK306.out)) : gb307 ≠ gb306))
       clear HO_283001
       clear HO_288001
       clear HO297
       clear HO301
       clear HO305
       clear BK282
       clear BK287
       clear BK306
       clear HB
       have HO_283001 := n0_
       have HO_288001 := n1_
       have HO297 := n2_
       have HO301 := n3_
       have HO305 := n4_
       have BK282 := n5_
       have BK287 := n6_
       have BK306 := n7_
       have HB := n8_
       have BK307 := n9_
       have GW307 := n10_
       have GE307 := n11_
       have NB282_307 := n12_
       have NB307_282 := n13_
       have NB287_307 := n14_
       have NB307_287 := n15_
       have NB306_307 := n16_
       have NB307_306 := n17_
       clear n0_ n1_ n2_ n3_ n4_ n5_ n6_ n7_ n8_ n9_ n10_ n11_ n12_ n13_ n14_ n15_ n16_ n17_
       clear hb hbox hg
       refine hK.out _ _ ⟨(blk_cell BK282.out 0).trans rfl, (blk_cell BK282.out 1).trans rfl⟩ (fun hHeld => ?_)
       clear hK K
       refine norm_ (a' := ?_) ?_ ?_
       rotate_left
       ·
        show Act.put _ (some 9) _ = _
        simp only [Act.put, s1_, s2_, s3_, i64_w, i32_w]
        rfl
       exact norm_ (by first | (simp only [putAll, Act.put, s1_, s2_, s3_]; done) | (simp only [putAll, Act.put, s1_, s2_, s3_]; rfl)) (hJ3_4_8_9 (v296, v300, v304, gb306, gb307) _ ⟨hHeld, (by (with_reducible repeat (first | apply v1_ | apply v2_ | apply v3_)); exact v4_ HO297.out (fun _ hk => ⟨hk.1.1, ⟨hk.1.2.1, ⟨hk.1.2.2.1, ⟨hk.1.2.2.2, hk.2⟩⟩⟩⟩)), (by (with_reducible repeat (first | apply v1_ | apply v2_ | apply v3_)); exact v4_ HO301.out (fun _ hk => ⟨hk.1.1, ⟨hk.1.2.1, ⟨hk.1.2.2.1, ⟨hk.1.2.2.2, hk.2⟩⟩⟩⟩)), (by (with_reducible repeat (first | apply v1_ | apply v2_ | apply v3_)); exact v4_ HO305.out (fun _ hk => ⟨hk.1.1, ⟨hk.1.2.1, ⟨hk.1.2.2.1, ⟨hk.1.2.2.2, hk.2⟩⟩⟩⟩)), (by (with_reducible repeat (first | apply v1_ | apply v2_ | apply v3_)); exact v4_ HO_283001.out (fun _ hk => ⟨hk.1.1, ⟨hk.1.2.1, ⟨hk.1.2.2.1, ⟨hk.1.2.2.2, hk.2⟩⟩⟩⟩)), (by (with_reducible repeat (first | apply v1_ | apply v2_ | apply v3_)); exact v4_ HO_288001.out (fun _ hk => ⟨hk.1.1, ⟨hk.1.2.1, ⟨hk.1.2.2.1, ⟨hk.1.2.2.2, hk.2⟩⟩⟩⟩)), (by (with_reducible repeat (first | refine k1_ ?_ _ | refine k2_ ?_ | refine k3_ ?_ _)); exact BK282.out), (by (with_reducible repeat (first | refine k1_ ?_ _ | refine k2_ ?_ | refine k3_ ?_ _)); exact BK287.out), (by (with_reducible repeat (first | refine k1_ ?_ _ | refine k2_ ?_ | refine k3_ ?_ _)); exact BK306.out), (by (with_reducible repeat (first | refine k1_ ?_ _ | refine k2_ ?_ | refine k3_ ?_ _)); exact BK307.out), GW306.out, GE306.out, NB282_306.out, NB306_282.out, NB287_306.out, NB306_287.out, NB307_306.out, NB306_307.out, GW307.out, GE307.out, NB282_307.out, NB307_282.out, NB287_307.out, NB307_287.out, (by repeat (first | (with_reducible first | exact HB.out | apply b1_ | apply b2_ | apply b3_ | refine b4_ ?_ GE282.out | refine b4_ ?_ GE287.out | refine b4_ ?_ GE306.out | refine b4_ ?_ GE307.out) | exact HB.out))⟩)
     rintro ⟨v296, v300, v304, gb306, gb307⟩ w38 ⟨hS_, h0_, h1_, h2_, h3_, h4_, h5_, h6_, h7_, h8_, h9_, h10_, h11_, h12_, h13_, h14_, h15_, h16_, h17_, h18_, h19_, h20_, h21_, h22_, h23_⟩
     have n0_ : Aside0 (Kd.V (Kd.int .u32) 40 w38 w.heap.size (fun k_ => (P0_1_ k_ ∨ w.heap.size ≤ k_) ∧ k_ ≠ gb282 ∧ k_ ≠ gb287 ∧ k_ ≠ gb306 ∧ k_ ≠ gb307) v296 t295) := ⟨h0_⟩
     have n1_ : Aside0 (Kd.V (Kd.int .u32) 40 w38 w.heap.size (fun k_ => (P0_1_ k_ ∨ w.heap.size ≤ k_) ∧ k_ ≠ gb282 ∧ k_ ≠ gb287 ∧ k_ ≠ gb306 ∧ k_ ≠ gb307) v300 t299) := ⟨h1_⟩
     have n2_ : Aside0 (Kd.V (Kd.int .u32) 40 w38 w.heap.size (fun k_ => (P0_1_ k_ ∨ w.heap.size ≤ k_) ∧ k_ ≠ gb282 ∧ k_ ≠ gb287 ∧ k_ ≠ gb306 ∧ k_ ≠ gb307) v304 t303) := ⟨h2_⟩
     have n3_ : Aside0 (Kd.V (Kd.int .u32) 40 w38 w.heap.size (fun k_ => (P0_1_ k_ ∨ w.heap.size ≤ k_) ∧ k_ ≠ gb282 ∧ k_ ≠ gb287 ∧ k_ ≠ gb306 ∧ k_ ≠ gb307) (.slice A0_1 l0_1.length c0_1) l0_1) := ⟨h3_⟩
     have n4_ : Aside0 (Kd.V (Kd.int .u32) 40 w38 w.heap.size (fun k_ => (P0_1_ k_ ∨ w.heap.size ≤ k_) ∧ k_ ≠ gb282 ∧ k_ ≠ gb287 ∧ k_ ≠ gb306 ∧ k_ ≠ gb307) (.slice Ao10 t284.length co10) t284) := ⟨h4_⟩
     have n5_ : Aside0 (w38.heap[gb282]? = some (.cells #[.bool true, .slice A0_1 l0_1.length c0_1] 26 (0, 0))) := ⟨h5_⟩
     have n6_ : Aside0 (w38.heap[gb287]? = some (.cells #[.bool t283, .slice Ao10 t284.length co10] 26 (0, 0))) := ⟨h6_⟩
     have n7_ : Aside0 (w38.heap[gb306]? = some (.cells #[.bool false, .slice none 0 0] 26 (0, 0))) := ⟨h7_⟩
     have n8_ : Aside0 (w38.heap[gb307]? = some (.cells #[.bool false, .slice none 0 0] 26 (0, 0))) := ⟨h8_⟩
     have n9_ : Aside0 (w.heap.size ≤ gb306) := ⟨h9_⟩
     have n10_ : Aside0 (w.heap.size ≤ gb306) := ⟨h10_⟩
     have n11_ : Aside0 (gb282 ≠ gb306) := ⟨h11_⟩
     have n12_ : Aside0 (gb306 ≠ gb282) := ⟨h12_⟩
     have n13_ : Aside0 (gb287 ≠ gb306) := ⟨h13_⟩
     have n14_ : Aside0 (gb306 ≠ gb287) := ⟨h14_⟩
     have n15_ : Aside0 (gb307 ≠ gb306) := ⟨h15_⟩
     have n16_ : Aside0 (gb306 ≠ gb307) := ⟨h16_⟩
     have n17_ : Aside0 (w.heap.size ≤ gb307) := ⟨h17_⟩
     have n18_ : Aside0 (w.heap.size ≤ gb307) := ⟨h18_⟩
     have n19_ : Aside0 (gb282 ≠ gb307) := ⟨h19_⟩
     have n20_ : Aside0 (gb307 ≠ gb282) := ⟨h20_⟩
     have n21_ : Aside0 (gb287 ≠ gb307) := ⟨h21_⟩
     have n22_ : Aside0 (gb307 ≠ gb287) := ⟨h22_⟩
     have n23_ : Aside0 (Below w.heap.size w w38) := ⟨h23_⟩
     clear HO_283001
     clear HO_288001
     clear BK282
     clear BK287
     clear HB
     clear h0_ h1_ h2_ h3_ h4_ h5_ h6_ h7_ h8_ h9_ h10_ h11_ h12_ h13_ h14_ h15_ h16_ h17_ h18_ h19_ h20_ h21_ h22_ h23_
     have HO297 := n0_
     have HO301 := n1_
     have HO305 := n2_
     have HO_283001 := n3_
     have HO_288001 := n4_
     have BK282 := n5_
     have BK287 := n6_
     have BK306 := n7_
     have BK307 := n8_
     have GW306 := n9_
     have GE306 := n10_
     have NB282_306 := n11_
     have NB306_282 := n12_
     have NB287_306 := n13_
     have NB306_287 := n14_
     have NB307_306 := n15_
     have NB306_307 := n16_
     have GW307 := n17_
     have GE307 := n18_
     have NB282_307 := n19_
     have NB307_282 := n20_
     have NB287_307 := n21_
     have NB307_287 := n22_
     have HB := n23_
     clear n0_ n1_ n2_ n3_ n4_ n5_ n6_ n7_ n8_ n9_ n10_ n11_ n12_ n13_ n14_ n15_ n16_ n17_ n18_ n19_ n20_ n21_ n22_ n23_
     have hHeld : w38.cell? ⟨gb282, 0, none⟩ = some (.bool true) ∧ w38.cell? ⟨gb282, 1, none⟩ = some (.slice A0_1 l0_1.length c0_1) := hS_
     obtain ⟨Ao40, co40, eo40⟩ := Kd.V_slice HO301.out
     (first | subst eo40 | (injection eo40 with f1_ f2_ f3_; have f4_ := f1_.symm; have f5_ := f3_.symm; clear f1_ f2_ f3_; subst f4_; subst f5_))
     obtain ⟨Ao43, co43, eo43⟩ := Kd.V_slice HO305.out
     (first | subst eo43 | (injection eo43 with f1_ f2_ f3_; have f4_ := f1_.symm; have f5_ := f3_.symm; clear f1_ f2_ f3_; subst f4_; subst f5_))
     refine norm_ (a' := ?_) ?_ ?_
     rotate_left
     ·
      simp only [putAll, Act.put, s1_, s2_, s3_]
      rfl
     refine one_ (i := 10) (N := none) #[true, true, true, true, true, true, true, true, true, true, true, false] rfl rfl (one_of HT_.out (by kernel_rfl)) (by decide) (fun K hK => ?_)
     have hs39 : w38.cell? ⟨gb306, 0, none⟩ = some (.bool false) := (blk_cell BK306.out 0).trans rfl
     have hfs39 := blk_frozen BK306.out 0
     have hns39_0 := NB282_306.out
     have hns39_1 := NB287_306.out
     have hns39_3 := NB307_306.out
     have hms39_0 := NB306_282.out
     have hms39_1 := NB306_287.out
     have hms39_3 := NB306_307.out
     have hs41 : w38.cell? ⟨gb306, 1, none⟩ = some (.slice none 0 0) := (blk_cell BK306.out 1).trans rfl
     have hfs41 := blk_frozen BK306.out 1
     have hns41_0 := NB282_306.out
     have hns41_1 := NB287_306.out
     have hns41_3 := NB307_306.out
     have hms41_0 := NB306_282.out
     have hms41_1 := NB306_287.out
     have hms41_3 := NB306_307.out
     refine skip_ (w1 := ?_) (by rfl) rfl ?_ ?_
     rotate_left
     ·
      go_simp
      rfl
     refine hK.out _ _ ⟨((cell_far (p := ⟨gb306, _, none⟩) NB282_306.out _).trans (((cell_far (p := ⟨gb306, _, none⟩) NB282_306.out _).trans (hHeld.1)))), ((cell_far (p := ⟨gb306, _, none⟩) NB282_306.out _).trans (((cell_far (p := ⟨gb306, _, none⟩) NB282_306.out _).trans (hHeld.2))))⟩ (fun hHeld => ?_)
     clear hK K
     refine one_ (i := 11) (N := none) #[true, true, true, true, true, true, true, true, true, true, true, true] rfl rfl (one_of HT_.out (by kernel_rfl)) (by decide) (fun K hK => ?_)
     have hs42 : w38.cell? ⟨gb307, 0, none⟩ = some (.bool false) := (blk_cell BK307.out 0).trans rfl
     have hfs42 := blk_frozen BK307.out 0
     have hns42_0 := NB282_307.out
     have hns42_1 := NB287_307.out
     have hns42_2 := NB306_307.out
     have hms42_0 := NB307_282.out
     have hms42_1 := NB307_287.out
     have hms42_2 := NB307_306.out
     have hs44 : w38.cell? ⟨gb307, 1, none⟩ = some (.slice none 0 0) := (blk_cell BK307.out 1).trans rfl
     have hfs44 := blk_frozen BK307.out 1
     have hns44_0 := NB282_307.out
     have hns44_1 := NB287_307.out
     have hns44_2 := NB306_307.out
     have hms44_0 := NB307_282.out
     have hms44_1 := NB307_287.out
     have hms44_2 := NB307_306.out
     refine skip_ (w1 := ?_) (by rfl) rfl ?_ ?_
     rotate_left
     ·
      go_simp
      rfl
     refine hK.out _ _ ⟨((cell_far (p := ⟨gb307, _, none⟩) NB282_307.out _).trans (((cell_far (p := ⟨gb307, _, none⟩) NB282_307.out _).trans (hHeld.1)))), ((cell_far (p := ⟨gb307, _, none⟩) NB282_307.out _).trans (((cell_far (p := ⟨gb307, _, none⟩) NB282_307.out _).trans (hHeld.2))))⟩ (fun hHeld => ?_)
     clear hK K
     refine done_ (done_of HT_.out (by kernel_rfl)) ?_
     try go_wp2
     have n0_ : Aside0 (Kd.V (Kd.int .u32) 40 ((((w38.setCell ⟨gb306, 0, none⟩ (.bool t298)).setCell ⟨gb306, 1, none⟩ (.slice Ao40 t299.length co40)).setCell ⟨gb307, 0, none⟩ (.bool t302)).setCell ⟨gb307, 1, none⟩ (.slice Ao43 t303.length co43)) w.heap.size (fun k_ => (P0_1_ k_ ∨ w.heap.size ≤ k_) ∧ k_ ≠ gb282 ∧ k_ ≠ gb287 ∧ k_ ≠ gb306 ∧ k_ ≠ gb307) (.slice A0_1 l0_1.length c0_1) l0_1) := ⟨by (with_reducible repeat (first | apply v1_ | apply v2_ | apply v3_)); exact v4_ (v5_ (p := ⟨gb307, 1, none⟩) (v5_ (p := ⟨gb307, 0, none⟩) (v5_ (p := ⟨gb306, 1, none⟩) (v5_ (p := ⟨gb306, 0, none⟩) (v4_ (v4_ HO_283001.out (fun k_ hk => (⟨hk, hk.2.2.2.1⟩ : _ ∧ k_ ≠ gb306))) (fun k_ hk => (⟨hk, hk.1.2.2.2.2⟩ : _ ∧ k_ ≠ gb307))) (fun _ hk => hk.1.2) (.bool t298)) (fun _ hk => hk.1.2) (.slice Ao40 t299.length co40)) (fun _ hk => hk.2) (.bool t302)) (fun _ hk => hk.2) (.slice Ao43 t303.length co43)) (fun _ hk => ⟨hk.1.1.1, ⟨hk.1.1.2.1, ⟨hk.1.1.2.2.1, ⟨hk.1.1.2.2.2.1, hk.1.1.2.2.2.2⟩⟩⟩⟩)⟩
     have n1_ : Aside0 (Kd.V (Kd.int .u32) 40 ((((w38.setCell ⟨gb306, 0, none⟩ (.bool t298)).setCell ⟨gb306, 1, none⟩ (.slice Ao40 t299.length co40)).setCell ⟨gb307, 0, none⟩ (.bool t302)).setCell ⟨gb307, 1, none⟩ (.slice Ao43 t303.length co43)) w.heap.size (fun k_ => (P0_1_ k_ ∨ w.heap.size ≤ k_) ∧ k_ ≠ gb282 ∧ k_ ≠ gb287 ∧ k_ ≠ gb306 ∧ k_ ≠ gb307) (.slice Ao10 t284.length co10) t284) := ⟨by (with_reducible repeat (first | apply v1_ | apply v2_ | apply v3_)); exact v4_ (v5_ (p := ⟨gb307, 1, none⟩) (v5_ (p := ⟨gb307, 0, none⟩) (v5_ (p := ⟨gb306, 1, none⟩) (v5_ (p := ⟨gb306, 0, none⟩) (v4_ (v4_ HO_288001.out (fun k_ hk => (⟨hk, hk.2.2.2.1⟩ : _ ∧ k_ ≠ gb306))) (fun k_ hk => (⟨hk, hk.1.2.2.2.2⟩ : _ ∧ k_ ≠ gb307))) (fun _ hk => hk.1.2) (.bool t298)) (fun _ hk => hk.1.2) (.slice Ao40 t299.length co40)) (fun _ hk => hk.2) (.bool t302)) (fun _ hk => hk.2) (.slice Ao43 t303.length co43)) (fun _ hk => ⟨hk.1.1.1, ⟨hk.1.1.2.1, ⟨hk.1.1.2.2.1, ⟨hk.1.1.2.2.2.1, hk.1.1.2.2.2.2⟩⟩⟩⟩)⟩
     have n2_ : Aside0 (Kd.V (Kd.int .u32) 40 ((((w38.setCell ⟨gb306, 0, none⟩ (.bool t298)).setCell ⟨gb306, 1, none⟩ (.slice Ao40 t299.length co40)).setCell ⟨gb307, 0, none⟩ (.bool t302)).setCell ⟨gb307, 1, none⟩ (.slice Ao43 t303.length co43)) w.heap.size (fun k_ => (P0_1_ k_ ∨ w.heap.size ≤ k_) ∧ k_ ≠ gb282 ∧ k_ ≠ gb287 ∧ k_ ≠ gb306 ∧ k_ ≠ gb307) v296 t295) := ⟨by (with_reducible repeat (first | apply v1_ | apply v2_ | apply v3_)); exact v4_ (v5_ (p := ⟨gb307, 1, none⟩) (v5_ (p := ⟨gb307, 0, none⟩) (v5_ (p := ⟨gb306, 1, none⟩) (v5_ (p := ⟨gb306, 0, none⟩) (v4_ (v4_ HO297.out (fun k_ hk => (⟨hk, hk.2.2.2.1⟩ : _ ∧ k_ ≠ gb306))) (fun k_ hk => (⟨hk, hk.1.2.2.2.2⟩ : _ ∧ k_ ≠ gb307))) (fun _ hk => hk.1.2) (.bool t298)) (fun _ hk => hk.1.2) (.slice Ao40 t299.length co40)) (fun _ hk => hk.2) (.bool t302)) (fun _ hk => hk.2) (.slice Ao43 t303.length co43)) (fun _ hk => ⟨hk.1.1.1, ⟨hk.1.1.2.1, ⟨hk.1.1.2.2.1, ⟨hk.1.1.2.2.2.1, hk.1.1.2.2.2.2⟩⟩⟩⟩)⟩
     have n3_ : Aside0 (Kd.V (Kd.int .u32) 40 ((((w38.setCell ⟨gb306, 0, none⟩ (.bool t298)).setCell ⟨gb306, 1, none⟩ (.slice Ao40 t299.length co40)).setCell ⟨gb307, 0, none⟩ (.bool t302)).setCell ⟨gb307, 1, none⟩ (.slice Ao43 t303.length co43)) w.heap.size (fun k_ => (P0_1_ k_ ∨ w.heap.size ≤ k_) ∧ k_ ≠ gb282 ∧ k_ ≠ gb287 ∧ k_ ≠ gb306 ∧ k_ ≠ gb307) (.slice Ao40 t299.length co40) t299) := ⟨by (with_reducible repeat (first | apply v1_ | apply v2_ | apply v3_)); exact v4_ (v5_ (p := ⟨gb307, 1, none⟩) (v5_ (p := ⟨gb307, 0, none⟩) (v5_ (p := ⟨gb306, 1, none⟩) (v5_ (p := ⟨gb306, 0, none⟩) (v4_ (v4_ HO301.out (fun k_ hk => (⟨hk, hk.2.2.2.1⟩ : _ ∧ k_ ≠ gb306))) (fun k_ hk => (⟨hk, hk.1.2.2.2.2⟩ : _ ∧ k_ ≠ gb307))) (fun _ hk => hk.1.2) (.bool t298)) (fun _ hk => hk.1.2) (.slice Ao40 t299.length co40)) (fun _ hk => hk.2) (.bool t302)) (fun _ hk => hk.2) (.slice Ao43 t303.length co43)) (fun _ hk => ⟨hk.1.1.1, ⟨hk.1.1.2.1, ⟨hk.1.1.2.2.1, ⟨hk.1.1.2.2.2.1, hk.1.1.2.2.2.2⟩⟩⟩⟩)⟩
     have n4_ : Aside0 (Kd.V (Kd.int .u32) 40 ((((w38.setCell ⟨gb306, 0, none⟩ (.bool t298)).setCell ⟨gb306, 1, none⟩ (.slice Ao40 t299.length co40)).setCell ⟨gb307, 0, none⟩ (.bool t302)).setCell ⟨gb307, 1, none⟩ (.slice Ao43 t303.length co43)) w.heap.size (fun k_ => (P0_1_ k_ ∨ w.heap.size ≤ k_) ∧ k_ ≠ gb282 ∧ k_ ≠ gb287 ∧ k_ ≠ gb306 ∧ k_ ≠ gb307) (.slice Ao43 t303.length co43) t303) := ⟨by (with_reducible repeat (first | apply v1_ | apply v2_ | apply v3_)); exact v4_ (v5_ (p := ⟨gb307, 1, none⟩) (v5_ (p := ⟨gb307, 0, none⟩) (v5_ (p := ⟨gb306, 1, none⟩) (v5_ (p := ⟨gb306, 0, none⟩) (v4_ (v4_ HO305.out (fun k_ hk => (⟨hk, hk.2.2.2.1⟩ : _ ∧ k_ ≠ gb306))) (fun k_ hk => (⟨hk, hk.1.2.2.2.2⟩ : _ ∧ k_ ≠ gb307))) (fun _ hk => hk.1.2) (.bool t298)) (fun _ hk => hk.1.2) (.slice Ao40 t299.length co40)) (fun _ hk => hk.2) (.bool t302)) (fun _ hk => hk.2) (.slice Ao43 t303.length co43)) (fun _ hk => ⟨hk.1.1.1, ⟨hk.1.1.2.1, ⟨hk.1.1.2.2.1, ⟨hk.1.1.2.2.2.1, hk.1.1.2.2.2.2⟩⟩⟩⟩)⟩
     have n5_ : Aside0 (((((w38.setCell ⟨gb306, 0, none⟩ (.bool t298)).setCell ⟨gb306, 1, none⟩ (.slice Ao40 t299.length co40)).setCell ⟨gb307, 0, none⟩ (.bool t302)).setCell ⟨gb307, 1, none⟩ (.slice Ao43 t303.length co43)).heap[gb282]? = some (.cells #[.bool true, .slice A0_1 l0_1.length c0_1] 26 (0, 0))) := ⟨by (with_reducible repeat (first | refine k1_ ?_ _ | refine k2_ ?_ | refine k3_ ?_ _)); refine blk_far ?_ NB282_307.out _; (with_reducible repeat (first | refine k1_ ?_ _ | refine k2_ ?_ | refine k3_ ?_ _)); refine blk_far ?_ NB282_307.out _; (with_reducible repeat (first | refine k1_ ?_ _ | refine k2_ ?_ | refine k3_ ?_ _)); refine blk_far ?_ NB282_306.out _; (with_reducible repeat (first | refine k1_ ?_ _ | refine k2_ ?_ | refine k3_ ?_ _)); refine blk_far ?_ NB282_306.out _; (with_reducible repeat (first | refine k1_ ?_ _ | refine k2_ ?_ | refine k3_ ?_ _)); exact BK282.out⟩
     have n6_ : Aside0 (((((w38.setCell ⟨gb306, 0, none⟩ (.bool t298)).setCell ⟨gb306, 1, none⟩ (.slice Ao40 t299.length co40)).setCell ⟨gb307, 0, none⟩ (.bool t302)).setCell ⟨gb307, 1, none⟩ (.slice Ao43 t303.length co43)).heap[gb287]? = some (.cells #[.bool t283, .slice Ao10 t284.length co10] 26 (0, 0))) := ⟨by (with_reducible repeat (first | refine k1_ ?_ _ | refine k2_ ?_ | refine k3_ ?_ _)); refine blk_far ?_ NB287_307.out _; (with_reducible repeat (first | refine k1_ ?_ _ | refine k2_ ?_ | refine k3_ ?_ _)); refine blk_far ?_ NB287_307.out _; (with_reducible repeat (first | refine k1_ ?_ _ | refine k2_ ?_ | refine k3_ ?_ _)); refine blk_far ?_ NB287_306.out _; (with_reducible repeat (first | refine k1_ ?_ _ | refine k2_ ?_ | refine k3_ ?_ _)); refine blk_far ?_ NB287_306.out _; (with_reducible repeat (first | refine k1_ ?_ _ | refine k2_ ?_ | refine k3_ ?_ _)); exact BK287.out⟩
     have n7_ : Aside0 (((((w38.setCell ⟨gb306, 0, none⟩ (.bool t298)).setCell ⟨gb306, 1, none⟩ (.slice Ao40 t299.length co40)).setCell ⟨gb307, 0, none⟩ (.bool t302)).setCell ⟨gb307, 1, none⟩ (.slice Ao43 t303.length co43)).heap[gb306]? = some (.cells #[.bool t298, .slice Ao40 t299.length co40] 26 (0, 0))) := ⟨by (with_reducible repeat (first | refine k1_ ?_ _ | refine k2_ ?_ | refine k3_ ?_ _)); refine blk_far ?_ NB306_307.out _; (with_reducible repeat (first | refine k1_ ?_ _ | refine k2_ ?_ | refine k3_ ?_ _)); refine blk_far ?_ NB306_307.out _; (with_reducible repeat (first | refine k1_ ?_ _ | refine k2_ ?_ | refine k3_ ?_ _)); refine blk_put (cs := #[.bool t298, .slice none 0 0]) ?_ 1 _ rfl; (with_reducible repeat (first | refine k1_ ?_ _ | refine k2_ ?_ | refine k3_ ?_ _)); refine blk_put (cs := #[.bool false, .slice none 0 0]) ?_ 0 _ rfl; (with_reducible repeat (first | refine k1_ ?_ _ | refine k2_ ?_ | refine k3_ ?_ _)); exact BK306.out⟩
     have n8_ : Aside0 (((((w38.setCell ⟨gb306, 0, none⟩ (.bool t298)).setCell ⟨gb306, 1, none⟩ (.slice Ao40 t299.length co40)).setCell ⟨gb307, 0, none⟩ (.bool t302)).setCell ⟨gb307, 1, none⟩ (.slice Ao43 t303.length co43)).heap[gb307]? = some (.cells #[.bool t302, .slice Ao43 t303.length co43] 26 (0, 0))) := ⟨by (with_reducible repeat (first | refine k1_ ?_ _ | refine k2_ ?_ | refine k3_ ?_ _)); refine blk_put (cs := #[.bool t302, .slice none 0 0]) ?_ 1 _ rfl; (with_reducible repeat (first | refine k1_ ?_ _ | refine k2_ ?_ | refine k3_ ?_ _)); refine blk_put (cs := #[.bool false, .slice none 0 0]) ?_ 0 _ rfl; (with_reducible repeat (first | refine k1_ ?_ _ | refine k2_ ?_ | refine k3_ ?_ _)); refine blk_far ?_ NB307_306.out _; (with_reducible repeat (first | refine k1_ ?_ _ | refine k2_ ?_ | refine k3_ ?_ _)); refine blk_far ?_ NB307_306.out _; (with_reducible repeat (first | refine k1_ ?_ _ | refine k2_ ?_ | refine k3_ ?_ _)); exact BK307.out⟩
     have n9_ : Aside0 (Below w.heap.size w ((((w38.setCell ⟨gb306, 0, none⟩ (.bool t298)).setCell ⟨gb306, 1, none⟩ (.slice Ao40 t299.length co40)).setCell ⟨gb307, 0, none⟩ (.bool t302)).setCell ⟨gb307, 1, none⟩ (.slice Ao43 t303.length co43))) := ⟨by repeat (first | (with_reducible first | exact HB.out | apply b1_ | apply b2_ | apply b3_ | refine b4_ ?_ GE282.out | refine b4_ ?_ GE287.out | refine b4_ ?_ GE306.out | refine b4_ ?_ GE307.out) | exact HB.out)⟩
     (try clear HO_283001)
     (try clear HO_288001)
     (try clear HO297)
     (try clear HO301)
     (try clear HO305)
     (try clear BK282)
     (try clear BK287)
     (try clear BK306)
     (try clear BK307)
     (try clear HB)
     generalize ((((w38.setCell ⟨gb306, 0, none⟩ (.bool t298)).setCell ⟨gb306, 1, none⟩ (.slice Ao40 t299.length co40)).setCell ⟨gb307, 0, none⟩ (.bool t302)).setCell ⟨gb307, 1, none⟩ (.slice Ao43 t303.length co43)) = w45 at n0_ n1_ n2_ n3_ n4_ n5_ n6_ n7_ n8_ n9_ ⊢
     have HO_283001 := n0_
     have HO_288001 := n1_
     have HO297 := n2_
     have HO301 := n3_
     have HO305 := n4_
     have BK282 := n5_
     have BK287 := n6_
     have BK306 := n7_
     have BK307 := n8_
     have HB := n9_
     clear n0_ n1_ n2_ n3_ n4_ n5_ n6_ n7_ n8_ n9_
     have n0_ := a0_ (v3_ HO_283001.out)
     have n1_ := a0_ (v3_ HO_288001.out)
     have n2_ := a0_ (v3_ HO297.out)
     have n3_ := a0_ (v3_ HO301.out)
     have n4_ := a0_ (v3_ HO305.out)
     have n5_ := a0_ (k2_ BK282.out)
     have n6_ := a0_ (k2_ BK287.out)
     have n7_ := a0_ (k2_ BK306.out)
     have n8_ := a0_ (k2_ BK307.out)
     have n9_ := a0_ (b3_ HB.out)
     clear HO_283001
     clear HO_288001
     clear HO297
     clear HO301
     clear HO305
     clear BK282
     clear BK287
     clear BK306
     clear BK307
     clear HB
     have HO_283001 := n0_
     have HO_288001 := n1_
     have HO297 := n2_
     have HO301 := n3_
     have HO305 := n4_
     have BK282 := n5_
     have BK287 := n6_
     have BK306 := n7_
     have BK307 := n8_
     have HB := n9_
     clear n0_ n1_ n2_ n3_ n4_ n5_ n6_ n7_ n8_ n9_
     refine start_ (n := 6) (S := fun w' => w'.cell? ⟨gb307, 0, none⟩ = some (.bool t302) ∧ w'.cell? ⟨gb307, 1, none⟩ = some (.slice Ao43 t303.length co43)) (ds := []) #[false, false, false, false, false, false] (by kernel_rfl) rfl rfl ⟨(blk_cell BK307.out 0).trans rfl, (blk_cell BK307.out 1).trans rfl⟩ (fun hHeld => ?_)
     generalize w45.drew = w46 at HO_283001 HO_288001 HO297 HO301 HO305 BK282 BK287 BK306 BK307 HB hHeld ⊢
     refine pure_ (i := 1) (N := some 39) (v := ?_) (a' := ?_) #[false, true, false, false, false, false] rfl rfl (by kernel_rfl) (fun _ _ _ h => h) (Or.inl ⟨by rfl, ?_⟩) ?_ ?_
     rotate_left
     ·
      intro w'
      go_simp
      with_reducible rfl
     rotate_left
     ·
      simp only [Act.put, s1_, s2_, s3_, i64_w, i32_w]
      rfl
     refine pure_ (i := 2) (N := some 40) (v := ?_) (a' := ?_) #[false, true, true, false, false, false] rfl rfl (by kernel_rfl) (fun _ _ _ h => h) (Or.inl ⟨by rfl, ?_⟩) ?_ ?_
     rotate_left
     ·
      intro w'
      go_simp
      with_reducible rfl
     rotate_left
     ·
      simp only [Act.put, s1_, s2_, s3_, i64_w, i32_w]
      rfl
     refine take_ (i := 0) (N := some 38) (v := ?_) (a' := ?_) #[true, true, true, false, false, false] rfl rfl (by kernel_rfl) (fun _ _ _ h => h) (Or.inl ⟨by rfl, ?_⟩) hHeld ?_ ?_
     rotate_left
     ·
      rintro w' ⟨s0, s1⟩
      go_simp
      with_reducible rfl
     rotate_left
     ·
      simp only [Act.put, s1_, s2_, s3_, i64_w, i32_w]
      rfl
     refine one_ (i := 3) (N := some 41) #[true, true, true, true, false, false] rfl rfl (by kernel_rfl) (by decide) (fun K hK => ?_)
     refine goes_ Tryd.func15 (by kernel_rfl) rfl #[.int .i64 (wrap64 (64 * a1))] (by rfl) rfl rfl (by (try simp only [List.map_toArray, List.map_cons, List.map_nil]); first | done | rfl | (simp only [List.length_drop, List.length_take]; rfl)) ?_
     with_reducible refine (spec_Two.calls kj3 (wrap64 (64 * a1)) t308 t309 _ A30.out).mono ?_
     rintro e w47 ⟨v310, rfl, ho0, hb⟩
     refine ⟨_, rfl, ?_⟩
     have n0_ := a0_ (Kd.V_below (by (with_reducible repeat (first | apply v1_ | apply v2_ | apply v3_)); exact HO_283001.out) hb)
     have n1_ := a0_ (Kd.V_below (by (with_reducible repeat (first | apply v1_ | apply v2_ | apply v3_)); exact HO_288001.out) hb)
     have n2_ := a0_ (Kd.V_below (by (with_reducible repeat (first | apply v1_ | apply v2_ | apply v3_)); exact HO297.out) hb)
     have n3_ := a0_ (Kd.V_below (by (with_reducible repeat (first | apply v1_ | apply v2_ | apply v3_)); exact HO301.out) hb)
     have n4_ := a0_ (Kd.V_below (by (with_reducible repeat (first | apply v1_ | apply v2_ | apply v3_)); exact HO305.out) hb)
     have n5_ := a0_ (Kd.V_lower (v4_ (ok' := fun k_ => (P0_1_ k_ ∨ w.heap.size ≤ k_) ∧ k_ ≠ gb282 ∧ k_ ≠ gb287 ∧ k_ ≠ gb306 ∧ k_ ≠ gb307) ho0 (fun k_ hk_ => ⟨(.inr (Nat.le_trans (below_size (by repeat (first | (with_reducible first | exact HB.out | apply b1_ | apply b2_ | apply b3_ | refine b4_ ?_ GE282.out | refine b4_ ?_ GE287.out | refine b4_ ?_ GE306.out | refine b4_ ?_ GE307.out) | exact HB.out))) hk_)), (Kd.freshB (g := gb282) (o := .cells #[.bool true, .slice A0_1 l0_1.length c0_1] 26 (0, 0)) (by (with_reducible repeat (first | refine k1_ ?_ _ | refine k2_ ?_ | refine k3_ ?_ _)); exact BK282.out) k_ hk_), (Kd.freshB (g := gb287) (o := .cells #[.bool t283, .slice Ao10 t284.length co10] 26 (0, 0)) (by (with_reducible repeat (first | refine k1_ ?_ _ | refine k2_ ?_ | refine k3_ ?_ _)); exact BK287.out) k_ hk_), (Kd.freshB (g := gb306) (o := .cells #[.bool t298, .slice Ao40 t299.length co40] 26 (0, 0)) (by (with_reducible repeat (first | refine k1_ ?_ _ | refine k2_ ?_ | refine k3_ ?_ _)); exact BK306.out) k_ hk_), (Kd.freshB (g := gb307) (o := .cells #[.bool t302, .slice Ao43 t303.length co43] 26 (0, 0)) (by (with_reducible repeat (first | refine k1_ ?_ _ | refine k2_ ?_ | refine k3_ ?_ _)); exact BK307.out) k_ hk_)⟩)) (below_size (by repeat (first | (with_reducible first | exact HB.out | apply b1_ | apply b2_ | apply b3_ | refine b4_ ?_ GE282.out | refine b4_ ?_ GE287.out | refine b4_ ?_ GE306.out | refine b4_ ?_ GE307.out) | exact HB.out))))
     have n6_ := a0_ (blk_below (g := gb282) (o := .cells #[.bool true, .slice A0_1 l0_1.length c0_1] 26 (0, 0)) (by (with_reducible repeat (first | refine k1_ ?_ _ | refine k2_ ?_ | refine k3_ ?_ _)); exact BK282.out) hb)
     have n7_ := a0_ (blk_below (g := gb287) (o := .cells #[.bool t283, .slice Ao10 t284.length co10] 26 (0, 0)) (by (with_reducible repeat (first | refine k1_ ?_ _ | refine k2_ ?_ | refine k3_ ?_ _)); exact BK287.out) hb)
     have n8_ := a0_ (blk_below (g := gb306) (o := .cells #[.bool t298, .slice Ao40 t299.length co40] 26 (0, 0)) (by (with_reducible repeat (first | refine k1_ ?_ _ | refine k2_ ?_ | refine k3_ ?_ _)); exact BK306.out) hb)
     have n9_ := a0_ (blk_below (g := gb307) (o := .cells #[.bool t302, .slice Ao43 t303.length co43] 26 (0, 0)) (by (with_reducible repeat (first | refine k1_ ?_ _ | refine k2_ ?_ | refine k3_ ?_ _)); exact BK307.out) hb)
     have n10_ := a0_ (below_step (by repeat (first | (with_reducible first | exact HB.out | apply b1_ | apply b2_ | apply b3_ | refine b4_ ?_ GE282.out | refine b4_ ?_ GE287.out | refine b4_ ?_ GE306.out | refine b4_ ?_ GE307.out) | exact HB.out)) hb)
     clear HO_283001
     clear HO_288001
     clear HO297
     clear HO301
     clear HO305
     clear BK282
     clear BK287
     clear BK306
     clear BK307
     clear HB
     have HO_283001 := n0_
     have HO_288001 := n1_
     have HO297 := n2_
     have HO301 := n3_
     have HO305 := n4_
     have HO311 := n5_
     have BK282 := n6_
     have BK287 := n7_
     have BK306 := n8_
     have BK307 := n9_
     have HB := n10_
     clear n0_ n1_ n2_ n3_ n4_ n5_ n6_ n7_ n8_ n9_ n10_
     (try clear hb)
     (try clear hb2)
     (try clear hk)
     (try clear hi)
     (try clear ho0)
     obtain ⟨Ao48, co48, eo48⟩ := Kd.V_slice HO311.out
     (first | subst eo48 | (injection eo48 with f1_ f2_ f3_; have f4_ := f1_.symm; have f5_ := f3_.symm; clear f1_ f2_ f3_; subst f4_; subst f5_))
     refine hK.out _ _ ⟨(blk_cell BK307.out 0).trans rfl, (blk_cell BK307.out 1).trans rfl⟩ (fun hHeld => ?_)
     clear hK K
     refine norm_ (a' := ?_) ?_ ?_
     rotate_left
     ·
      show Act.put _ (some 41) _ = _
      simp only [Act.put, s1_, s2_, s3_, i64_w, i32_w]
      rfl
     refine one_ (i := 4) (N := some 42) #[true, true, true, true, true, false] rfl rfl (by kernel_rfl) (by decide) (fun K hK => ?_)
     refine goes_ Tryd.func18 (by kernel_rfl) rfl #[.agg #[.bool t302, .slice Ao43 t303.length co43], .agg #[.bool t308, .slice Ao48 t309.length co48]] (by rfl) rfl rfl (by (try simp only [List.map_toArray, List.map_cons, List.map_nil]); first | done | rfl | (simp only [List.length_drop, List.length_take]; rfl)) ?_
     with_reducible refine (spec_WideAdd.calls kj3 t302 _ _ t303 t308 _ _ t309 t312 t313 _ ?side1 ?side2 ?side3 ?side4 A31.out).mono ?_
     (case side1 => repeat (first | exact (Kd.V_reads' HO305.out).2.2 | (with_reducible refine Kd.C_alloc ?_ _) | (with_reducible refine Kd.C_drewN ?_ _) | (with_reducible refine Kd.C_drew ?_)))
     (case side2 => exact (Kd.V_reads' HO305.out).2.1)
     (case side3 => repeat (first | exact (Kd.V_reads' HO311.out).2.2 | (with_reducible refine Kd.C_alloc ?_ _) | (with_reducible refine Kd.C_drewN ?_ _) | (with_reducible refine Kd.C_drew ?_)))
     (case side4 => exact (Kd.V_reads' HO311.out).2.1)
     rintro e w49 ⟨v314, rfl, ho0, hb⟩
     refine ⟨_, rfl, ?_⟩
     have n0_ := a0_ (Kd.V_below (by (with_reducible repeat (first | apply v1_ | apply v2_ | apply v3_)); exact HO_283001.out) hb)
     have n1_ := a0_ (Kd.V_below (by (with_reducible repeat (first | apply v1_ | apply v2_ | apply v3_)); exact HO_288001.out) hb)
     have n2_ := a0_ (Kd.V_below (by (with_reducible repeat (first | apply v1_ | apply v2_ | apply v3_)); exact HO297.out) hb)
     have n3_ := a0_ (Kd.V_below (by (with_reducible repeat (first | apply v1_ | apply v2_ | apply v3_)); exact HO301.out) hb)
     have n4_ := a0_ (Kd.V_below (by (with_reducible repeat (first | apply v1_ | apply v2_ | apply v3_)); exact HO305.out) hb)
     have n5_ := a0_ (Kd.V_below (by (with_reducible repeat (first | apply v1_ | apply v2_ | apply v3_)); exact HO311.out) hb)
     have n6_ := a0_ (Kd.V_lower (v4_ (ok' := fun k_ => (P0_1_ k_ ∨ w.heap.size ≤ k_) ∧ k_ ≠ gb282 ∧ k_ ≠ gb287 ∧ k_ ≠ gb306 ∧ k_ ≠ gb307) ho0 (fun k_ hk_ => ⟨(.inr (Nat.le_trans (below_size (by repeat (first | (with_reducible first | exact HB.out | apply b1_ | apply b2_ | apply b3_ | refine b4_ ?_ GE282.out | refine b4_ ?_ GE287.out | refine b4_ ?_ GE306.out | refine b4_ ?_ GE307.out) | exact HB.out))) hk_)), (Kd.freshB (g := gb282) (o := .cells #[.bool true, .slice A0_1 l0_1.length c0_1] 26 (0, 0)) (by (with_reducible repeat (first | refine k1_ ?_ _ | refine k2_ ?_ | refine k3_ ?_ _)); exact BK282.out) k_ hk_), (Kd.freshB (g := gb287) (o := .cells #[.bool t283, .slice Ao10 t284.length co10] 26 (0, 0)) (by (with_reducible repeat (first | refine k1_ ?_ _ | refine k2_ ?_ | refine k3_ ?_ _)); exact BK287.out) k_ hk_), (Kd.freshB (g := gb306) (o := .cells #[.bool t298, .slice Ao40 t299.length co40] 26 (0, 0)) (by (with_reducible repeat (first | refine k1_ ?_ _ | refine k2_ ?_ | refine k3_ ?_ _)); exact BK306.out) k_ hk_), (Kd.freshB (g := gb307) (o := .cells #[.bool t302, .slice Ao43 t303.length co43] 26 (0, 0)) (by (with_reducible repeat (first | refine k1_ ?_ _ | refine k2_ ?_ | refine k3_ ?_ _)); exact BK307.out) k_ hk_)⟩)) (below_size (by repeat (first | (with_reducible first | exact HB.out | apply b1_ | apply b2_ | apply b3_ | refine b4_ ?_ GE282.out | refine b4_ ?_ GE287.out | refine b4_ ?_ GE306.out | refine b4_ ?_ GE307.out) | exact HB.out))))
     have n7_ := a0_ (blk_below (g := gb282) (o := .cells #[.bool true, .slice A0_1 l0_1.length c0_1] 26 (0, 0)) (by (with_reducible repeat (first | refine k1_ ?_ _ | refine k2_ ?_ | refine k3_ ?_ _)); exact BK282.out) hb)
     have n8_ := a0_ (blk_below (g := gb287) (o := .cells #[.bool t283, .slice Ao10 t284.length co10] 26 (0, 0)) (by (with_reducible repeat (first | refine k1_ ?_ _ | refine k2_ ?_ | refine k3_ ?_ _)); exact BK287.out) hb)
     have n9_ := a0_ (blk_below (g := gb306) (o := .cells #[.bool t298, .slice Ao40 t299.length co40] 26 (0, 0)) (by (with_reducible repeat (first | refine k1_ ?_ _ | refine k2_ ?_ | refine k3_ ?_ _)); exact BK306.out) hb)
     have n10_ := a0_ (blk_below (g := gb307) (o := .cells #[.bool t302, .slice Ao43 t303.length co43] 26 (0, 0)) (by (with_reducible repeat (first | refine k1_ ?_ _ | refine k2_ ?_ | refine k3_ ?_ _)); exact BK307.out) hb)
     have n11_ := a0_ (below_step (by repeat (first | (with_reducible first | exact HB.out | apply b1_ | apply b2_ | apply b3_ | refine b4_ ?_ GE282.out | refine b4_ ?_ GE287.out | refine b4_ ?_ GE306.out | refine b4_ ?_ GE307.out) | exact HB.out)) hb)
     clear HO_283001
     clear HO_288001
     clear HO297
     clear HO301
     clear HO305
     clear HO311
     clear BK282
     clear BK287
     clear BK306
     clear BK307
     clear HB
     have HO_283001 := n0_
     have HO_288001 := n1_
     have HO297 := n2_
     have HO301 := n3_
     have HO305 := n4_
     have HO311 := n5_
     have HO315 := n6_
     have BK282 := n7_
     have BK287 := n8_
     have BK306 := n9_
     have BK307 := n10_
     have HB := n11_
     clear n0_ n1_ n2_ n3_ n4_ n5_ n6_ n7_ n8_ n9_ n10_ n11_
     (try clear hb)
     (try clear hb2)
     (try clear hk)
     (try clear hi)
     (try clear ho0)
     obtain ⟨Ao51, co51, eo51⟩ := Kd.V_slice HO315.out
     (first | subst eo51 | (injection eo51 with f1_ f2_ f3_; have f4_ := f1_.symm; have f5_ := f3_.symm; clear f1_ f2_ f3_; subst f4_; subst f5_))
     refine hK.out _ _ ⟨(blk_cell BK307.out 0).trans rfl, (blk_cell BK307.out 1).trans rfl⟩ (fun hHeld => ?_)
     clear hK K
     refine norm_ (a' := ?_) ?_ ?_
     rotate_left
     ·
      show Act.put _ (some 42) _ = _
      simp only [Act.put, s1_, s2_, s3_, i64_w, i32_w]
      rfl
     refine one_ (i := 5) (N := none) #[true, true, true, true, true, true] rfl rfl (by kernel_rfl) (by decide) (fun K hK => ?_)
     have hs50 : w49.cell? ⟨gb282, 0, none⟩ = some (.bool true) := (blk_cell BK282.out 0).trans rfl
     have hfs50 := blk_frozen BK282.out 0
     have hns50_1 := NB287_282.out
     have hns50_2 := NB306_282.out
     have hns50_3 := NB307_282.out
     have hms50_1 := NB282_287.out
     have hms50_2 := NB282_306.out
     have hms50_3 := NB282_307.out
     have hs52 : w49.cell? ⟨gb282, 1, none⟩ = some (.slice A0_1 l0_1.length c0_1) := (blk_cell BK282.out 1).trans rfl
     have hfs52 := blk_frozen BK282.out 1
     have hns52_1 := NB287_282.out
     have hns52_2 := NB306_282.out
     have hns52_3 := NB307_282.out
     have hms52_1 := NB282_287.out
     have hms52_2 := NB282_306.out
     have hms52_3 := NB282_307.out
     refine skip_ (w1 := ?_) (by rfl) rfl ?_ ?_
     rotate_left
     ·
      go_simp
      rfl
     refine hK.out _ _ ⟨((cell_far (p := ⟨gb282, _, none⟩) NB307_282.out _).trans (((cell_far (p := ⟨gb282, _, none⟩) NB307_282.out _).trans (hHeld.1)))), ((cell_far (p := ⟨gb282, _, none⟩) NB307_282.out _).trans (((cell_far (p := ⟨gb282, _, none⟩) NB307_282.out _).trans (hHeld.2))))⟩ (fun hHeld => ?_)
     clear hK K
     refine done_ (by kernel_rfl) ?_
     try go_wp2
     go_meet
     case rel => exact ⟨_, (t312), (t313), (.slice Ao51 t313.length co51), H', ⟨by have := HJ3.out; first | omega | exact Nat.le_refl _⟩, ⟨by (with_reducible repeat (first | apply v1_ | apply v2_ | apply v3_)); exact v4_ (v5_ (p := ⟨gb282, 1, none⟩) (v5_ (p := ⟨gb282, 0, none⟩) (v4_ HO315.out (fun k_ hk => (⟨hk, hk.2.1⟩ : _ ∧ k_ ≠ gb282))) (fun _ hk => hk.2) (.bool t312)) (fun _ hk => hk.2) (.slice Ao51 t313.length co51)) (fun _ hk => ⟨hk.1.1, ⟨hk.1.2.1, hk.1.2.2.1⟩⟩)⟩, ⟨by (with_reducible repeat (first | apply v1_ | apply v2_ | apply v3_)); exact v4_ (v5_ (p := ⟨gb282, 1, none⟩) (v5_ (p := ⟨gb282, 0, none⟩) (v4_ HO_288001.out (fun k_ hk => (⟨hk, hk.2.1⟩ : _ ∧ k_ ≠ gb282))) (fun _ hk => hk.2) (.bool t312)) (fun _ hk => hk.2) (.slice Ao51 t313.length co51)) (fun _ hk => ⟨hk.1.1, ⟨hk.1.2.1, hk.1.2.2.1⟩⟩)⟩, ⟨by (with_reducible repeat (first | refine k1_ ?_ _ | refine k2_ ?_ | refine k3_ ?_ _)); refine blk_put (cs := #[.bool t312, .slice A0_1 l0_1.length c0_1]) ?_ 1 _ rfl; (with_reducible repeat (first | refine k1_ ?_ _ | refine k2_ ?_ | refine k3_ ?_ _)); refine blk_put (cs := #[.bool true, .slice A0_1 l0_1.length c0_1]) ?_ 0 _ rfl; (with_reducible repeat (first | refine k1_ ?_ _ | refine k2_ ?_ | refine k3_ ?_ _)); exact BK282.out⟩, ⟨by (with_reducible repeat (first | refine k1_ ?_ _ | refine k2_ ?_ | refine k3_ ?_ _)); refine blk_far ?_ NB287_282.out _; (with_reducible repeat (first | refine k1_ ?_ _ | refine k2_ ?_ | refine k3_ ?_ _)); refine blk_far ?_ NB287_282.out _; (with_reducible repeat (first | refine k1_ ?_ _ | refine k2_ ?_ | refine k3_ ?_ _)); exact BK287.out⟩, ⟨by repeat (first | (with_reducible first | exact HB.out | apply b1_ | apply b2_ | apply b3_ | refine b4_ ?_ GE282.out | refine b4_ ?_ GE287.out | refine b4_ ?_ GE306.out | refine b4_ ?_ GE307.out) | exact HB.out)⟩⟩
    ·
     replace c27 := Bool.eq_false_iff.mpr c27
     subst c27
     have H1 : (spec_ToWords.j1 kj3 a1 x7_3 false l0_1) = some (r1, r2) := by rw [if_neg (show ¬ (false = true) by decide)] at H; exact H
     clear H
     have H := H1
     clear H1
     have H' := a0_ H
     clear H
     go_wp2
     go_meet
     case rel => exact ⟨_, (false), (l0_1), (.slice A0_1 l0_1.length c0_1), H', ⟨by have := HJ3.out; first | omega | exact Nat.le_refl _⟩, ⟨by (with_reducible repeat (first | apply v1_ | apply v2_ | apply v3_)); exact HO_283001.out⟩, ⟨by (with_reducible repeat (first | apply v1_ | apply v2_ | apply v3_)); exact HO_288001.out⟩, ⟨by (with_reducible repeat (first | refine k1_ ?_ _ | refine k2_ ?_ | refine k3_ ?_ _)); exact BK282.out⟩, ⟨by (with_reducible repeat (first | refine k1_ ?_ _ | refine k2_ ?_ | refine k3_ ?_ _)); exact BK287.out⟩, ⟨by repeat (first | (with_reducible first | exact HB.out | apply b1_ | apply b2_ | apply b3_ | refine b4_ ?_ GE282.out | refine b4_ ?_ GE287.out) | exact HB.out)⟩⟩
   case rest =>
    clear HC24
    try clear c1
    try clear c2
    try clear p2
    try clear p6
    try clear c15
    try clear c18
    try clear c27
    obtain ⟨kq, x283000_23, x283001_23, u283001, HA, HJ23, HO_283001, HO_288001, BK282, BK287, HB⟩ := hcut
    cases kq with
    | zero => exact absurd HA.out (by simp [spec_ToWords.j1])
    | succ kj23 =>
     have H := HA.out
     clear HA
     simp only [spec_ToWords.j1] at H
     by_cases c53 : 0 ≤ a1
     ·
      rw [if_pos c53] at H
      have c53b0 := eq_true c53
      have c53b1 : decide (0 ≤ a1) = true := d2_ c53
      clear c53
      by_cases c54 : (a1 : Int).toNat ≤ 35184372088832
      ·
       rw [if_pos c54] at H
       have c54b0 := eq_true c54
       have c54b1 : decide ((a1 : Int).toNat ≤ 35184372088832) = true := d2_ c54
       clear c54
       obtain ⟨y316, hy316⟩ : ∃ y_ : List Int, y_ = (List.replicate (a1 : Int).toNat 0) := ⟨_, rfl⟩
       replace H : (spec_ToWords.l0 kj23 x7_3 y316 (y316.length : Int) 0 x283000_23 x283001_23) = some (r1, r2) := by first | (rw [hy316]; with_reducible exact H) | (have H2_ := (o2_ _ _).symm.trans H; rw [hy316]; with_reducible exact H2_) | (have H2_ := (o2_ _ _).symm.trans H; with_reducible exact H2_) | with_reducible exact H | (rw [hy316]; exact H) | exact H
       have Ny316 := a0_ hy316
       clear hy316
       have H' := a0_ H
       clear H
       go_wp2_with (first | ((with_reducible refine gate_dst (N := 44) rfl ?_); refine Kd.R_make (Kd.int .u64) _ 35 rfl (N := 44) rfl 32 _ _ rfl a1 rfl rfl Tryd.underlying32 (.int .u64 0) 8 info35 rfl (by decide) (by omega) 0 (ok := fun _ => True) (okp := fun _ => True) rfl (fun _ hk => hk) trivial (d1_ (by first | (with_reducible assumption) | assumption)) (Nat.le_trans (Nat.mul_le_mul_right _ (d1_ (by first | (with_reducible assumption) | assumption) : a1.toNat ≤ 35184372088832)) (by omega)) (Below.refl _ _) (Nat.le_refl _) ?_; intro v317 w55 ho56 hb hg_ hnew_; clear hg_ hnew_; (first | rw [← Ny316.out] at ho56 | (simp only [Int.reduceToNat] at ho56; rw [← Ny316.out] at ho56)); have n0_ := a0_ (Kd.V_elder' (by (with_reducible repeat (first | apply v1_ | apply v2_ | apply v3_)); exact HO_283001.out) (Kd.R_base ho56) hb); have n1_ := a0_ (Kd.V_elder' (by (with_reducible repeat (first | apply v1_ | apply v2_ | apply v3_)); exact HO_288001.out) (Kd.R_base ho56) hb); have n2_ := a0_ (Kd.R_lower (Kd.R_newM (M := fun k_ => (w.heap.size ≤ k_)) ho56 (below_size (by repeat (first | (with_reducible first | exact HB.out | apply b1_ | apply b2_ | apply b3_ | refine b4_ ?_ GE282.out | refine b4_ ?_ GE287.out) | exact HB.out))) (fun k_ h_ => h_)) (below_size (by repeat (first | (with_reducible first | exact HB.out | apply b1_ | apply b2_ | apply b3_ | refine b4_ ?_ GE282.out | refine b4_ ?_ GE287.out) | exact HB.out)))); have n3_ := a0_ (blk_below (g := gb282) (o := .cells #[.bool x283000_23, u283001] 26 (0, 0)) (by (with_reducible repeat (first | refine k1_ ?_ _ | refine k2_ ?_ | refine k3_ ?_ _)); exact BK282.out) hb); have n4_ := a0_ (blk_below (g := gb287) (o := .cells #[.bool t283, .slice Ao10 t284.length co10] 26 (0, 0)) (by (with_reducible repeat (first | refine k1_ ?_ _ | refine k2_ ?_ | refine k3_ ?_ _)); exact BK287.out) hb); have n5_ := a0_ (below_step (by repeat (first | (with_reducible first | exact HB.out | apply b1_ | apply b2_ | apply b3_ | refine b4_ ?_ GE282.out | refine b4_ ?_ GE287.out) | exact HB.out)) hb); clear HO_283001; clear HO_288001; clear BK282; clear BK287; clear HB; have HO_283001 := n0_; have HO_288001 := n1_; have HO318 := n2_; have BK282 := n3_; have BK287 := n4_; have HB := n5_; clear n0_ n1_ n2_ n3_ n4_ n5_; clear hb ho56; obtain ⟨Ao57, co57, eo57⟩ := Kd.R_slice HO318.out; subst eo57))
       go_loopg [47] kj23 (fun kq v47 w' => ∃ (x10_3 : List Int) (x47_3 : Int), v47 = .int .i64 x47_3 ∧ Aside0 (spec_ToWords.l0 kq x7_3 x10_3 (y316.length : Int) x47_3 x283000_23 x283001_23 = some (r1, r2)) ∧ Aside0 (kq ≤ kj23) ∧ Aside0 (Kd.R (Kd.int .u64) 35 w' w.heap.size (fun k_ => (w.heap.size ≤ k_)) (.slice Ao57 y316.length co57) x10_3) ∧ Aside0 (Kd.V (Kd.int .u32) 40 w' w.heap.size (fun k_ => (P0_1_ k_ ∨ w.heap.size ≤ k_) ∧ some k_ ≠ ((.slice Ao57 y316.length co57) : Value).ownBlock ∧ k_ ≠ gb282 ∧ k_ ≠ gb287) u283001 x283001_23) ∧ Aside0 (Kd.V (Kd.int .u32) 40 w' w.heap.size (fun k_ => (P0_1_ k_ ∨ w.heap.size ≤ k_) ∧ some k_ ≠ ((.slice Ao57 y316.length co57) : Value).ownBlock ∧ k_ ≠ gb282 ∧ k_ ≠ gb287) (.slice Ao10 t284.length co10) t284) ∧ Aside0 (w'.heap[gb282]? = some (.cells #[.bool x283000_23, u283001] 26 (0, 0))) ∧ Aside0 (w'.heap[gb287]? = some (.cells #[.bool t283, (.slice Ao10 t284.length co10)] 26 (0, 0))) ∧ Aside0 (Below w.heap.size w w'))
       case atStart => exact ⟨(y316), (0), (by first | rfl | (simp; done) | (simp [*]; done)), H', ⟨Nat.le_refl _⟩, ⟨by (with_reducible repeat (first | apply r1_ | apply r2_ | apply r3_)); exact Kd.R_mono HO318.out (fun _ hk => hk.1)⟩, ⟨by (with_reducible repeat (first | apply v1_ | apply v2_ | apply v3_)); exact v4_ HO_283001.out (fun _ hk => ⟨hk.1.1, ⟨hk.2, ⟨hk.1.2.1, hk.1.2.2⟩⟩⟩)⟩, ⟨by (with_reducible repeat (first | apply v1_ | apply v2_ | apply v3_)); exact v4_ HO_288001.out (fun _ hk => ⟨hk.1.1, ⟨hk.2, ⟨hk.1.2.1, hk.1.2.2⟩⟩⟩)⟩, ⟨by (with_reducible repeat (first | refine k1_ ?_ _ | refine k2_ ?_ | refine k3_ ?_ _)); exact BK282.out⟩, ⟨by (with_reducible repeat (first | refine k1_ ?_ _ | refine k2_ ?_ | refine k3_ ?_ _)); exact BK287.out⟩, ⟨by repeat (first | (with_reducible first | exact HB.out | apply b1_ | apply b2_ | apply b3_ | refine b4_ ?_ GE282.out | refine b4_ ?_ GE287.out) | exact HB.out)⟩⟩
       case round =>
        clear H'
        try clear c1
        try clear c2
        try clear p2
        try clear c5
        try clear p6
        try clear c15
        try clear c18
        try clear c27
        try clear c53
        try clear c53b0
        try clear c53b1
        try clear c54
        try clear c54b0
        try clear c54b1
        try clear p2
        try clear p6
        obtain ⟨x10_3, x47_3, rfl, HA, HK3, HO_10, HO_283001, HO_288001, BK282, BK287, HB⟩ := hrel
        have hl10_3 := (Kd.R_reads' HO_10.out).1
        rw [hl10_3] at HO_10
        (try simp only [hl10_3])
        (try simp only [hl10_3] at BK282)
        (try simp only [hl10_3] at BK287)
        (try simp only [hl10_3] at HO_283001)
        (try simp only [hl10_3] at HO_288001)
        cases gk with
        | zero => exact absurd HA.out (by simp [spec_ToWords.l0])
        | succ k3 =>
         have H := HA.out
         clear HA
         simp only [spec_ToWords.l0] at H
         by_cases c58 : x47_3 < (y316.length : Int)
         ·
          rw [if_pos c58] at H
          have c58b0 : decide (x47_3 < (y316.length : Int)) = true := d2_ c58
          have c58bz : decide (x47_3 < (x10_3.length : Int)) = true := hl10_3 ▸ c58b0
          clear c58
          have H' := a0_ H
          clear H
          go_wp2
          go_loopg [12] k3 (fun kq v12 w' => ∃ (x10_4 : List Int) (x12_4 : Int), v12 = .int .i64 x12_4 ∧ Aside0 (spec_ToWords.l1 kq x7_3 x10_4 x47_3 x12_4 (y316.length : Int) x47_3 x283000_23 x283001_23 = some (r1, r2)) ∧ Aside0 (kq ≤ k3) ∧ Aside0 (Kd.R (Kd.int .u64) 35 w' w.heap.size (fun k_ => (w.heap.size ≤ k_)) (.slice Ao57 x10_3.length co57) x10_4) ∧ Aside0 (Kd.V (Kd.int .u32) 40 w' w.heap.size (fun k_ => (P0_1_ k_ ∨ w.heap.size ≤ k_) ∧ some k_ ≠ ((.slice Ao57 x10_3.length co57) : Value).ownBlock ∧ k_ ≠ gb282 ∧ k_ ≠ gb287) u283001 x283001_23) ∧ Aside0 (Kd.V (Kd.int .u32) 40 w' w.heap.size (fun k_ => (P0_1_ k_ ∨ w.heap.size ≤ k_) ∧ some k_ ≠ ((.slice Ao57 x10_3.length co57) : Value).ownBlock ∧ k_ ≠ gb282 ∧ k_ ≠ gb287) (.slice Ao10 t284.length co10) t284) ∧ Aside0 (w'.heap[gb282]? = some (.cells #[.bool x283000_23, u283001] 26 (0, 0))) ∧ Aside0 (w'.heap[gb287]? = some (.cells #[.bool t283, (.slice Ao10 t284.length co10)] 26 (0, 0))) ∧ Aside0 (Below w.heap.size w w'))
          case atStart => exact ⟨(x10_3), (0), (by first | rfl | (simp; done) | (simp [*]; done)), H', ⟨Nat.le_refl _⟩, ⟨by (try simp only [hl10_3]); (with_reducible repeat (first | apply r1_ | apply r2_ | apply r3_)); exact HO_10.out⟩, ⟨by (try simp only [hl10_3]); (with_reducible repeat (first | apply v1_ | apply v2_ | apply v3_)); exact HO_283001.out⟩, ⟨by (try simp only [hl10_3]); (with_reducible repeat (first | apply v1_ | apply v2_ | apply v3_)); exact HO_288001.out⟩, ⟨by (try simp only [hl10_3]); (with_reducible repeat (first | refine k1_ ?_ _ | refine k2_ ?_ | refine k3_ ?_ _)); exact BK282.out⟩, ⟨by (try simp only [hl10_3]); (with_reducible repeat (first | refine k1_ ?_ _ | refine k2_ ?_ | refine k3_ ?_ _)); exact BK287.out⟩, ⟨by repeat (first | (with_reducible first | exact HB.out | apply b1_ | apply b2_ | apply b3_ | refine b4_ ?_ GE282.out | refine b4_ ?_ GE287.out) | exact HB.out)⟩⟩
          case round =>
           clear H'
           try clear c1
           try clear c2
           try clear p2
           try clear c5
           try clear p6
           try clear c15
           try clear c18
           try clear c27
           try clear c53
           try clear c53b0
           try clear c53b1
           try clear c54
           try clear c54b0
           try clear c54b1
           try clear c58
           try clear c58b0
           try clear p2
           try clear p6
           obtain ⟨x10_4, x12_4, rfl, HA, HK4, HO_10, HO_283001, HO_288001, BK282, BK287, HB⟩ := hrel
           have hl10_4 := (Kd.R_reads' HO_10.out).1
           rw [hl10_4] at HO_10
           (try simp only [hl10_4])
           (try simp only [hl10_4] at BK282)
           (try simp only [hl10_4] at BK287)
           (try simp only [hl10_4] at HO_283001)
           (try simp only [hl10_4] at HO_288001)
           cases gk with
           | zero => exact absurd HA.out (by simp [spec_ToWords.l1])
           | succ k4 =>
            have H := HA.out
            clear HA
            simp only [spec_ToWords.l1] at H
            by_cases c59 : x12_4 < 2
            ·
             rw [if_pos c59] at H
             have c59b0 : decide (x12_4 < 2) = true := d2_ c59
             clear c59
             by_cases c60 : (wrap64 ((wrap64 (2 * x47_3)) + x12_4)) < (x283001_23.length : Int)
             ·
              rw [if_pos c60] at H
              have c60b0 : decide ((wrap64 ((wrap64 (2 * x47_3)) + x12_4)) < (x283001_23.length : Int)) = true := d2_ c60
              clear c60
              by_cases c61 : 0 ≤ x47_3
              ·
               rw [if_pos c61] at H
               have c61b0 : decide (0 ≤ x47_3) = true := d2_ c61
               clear c61
               by_cases c62 : x47_3 < (x10_4.length : Int)
               ·
                rw [if_pos c62] at H
                have c62b0 : decide (x47_3 < (x10_4.length : Int)) = true := d2_ c62
                clear c62
                obtain ⟨ji63, hji63⟩ : ∃ j_ : Int, (wrap64 ((wrap64 (2 * x47_3)) + x12_4)) = j_ := ⟨_, rfl⟩
                replace H : (if 0 ≤ (ji63) then (if 0 ≤ (wrap64 (32 * x12_4)) then (spec_ToWords.l1 k4 x7_3 (x10_4.set (x47_3 : Int).toNat (Go.bits .or .u64 (rd x10_4 x47_3) (shl .u64 (IntKind.u64.wrap (rd x283001_23 (ji63))) (wrap64 (32 * x12_4))))) x47_3 (wrap64 (x12_4 + 1)) (y316.length : Int) x47_3 x283000_23 x283001_23) else (none)) else (none)) = some (r1, r2) := by first | (rw [hji63] at H; exact H) | (simp only [hji63] at H ⊢; exact H)
                (try rw [hji63] at c60b0)
                have hji63w : (IntKind.i64.wrap ((wrap64 (2 * x47_3)) + x12_4)) = ji63 := (i64_w _).trans hji63
                by_cases c64 : 0 ≤ (ji63)
                ·
                 rw [if_pos c64] at H
                 have c64b0 : decide (0 ≤ (ji63)) = true := d2_ c64
                 clear c64
                 obtain ⟨ji65, hji65⟩ : ∃ j_ : Int, (wrap64 (32 * x12_4)) = j_ := ⟨_, rfl⟩
                 replace H : (if 0 ≤ (ji65) then (spec_ToWords.l1 k4 x7_3 (x10_4.set (x47_3 : Int).toNat (Go.bits .or .u64 (rd x10_4 x47_3) (shl .u64 (IntKind.u64.wrap (rd x283001_23 (ji63))) (ji65)))) x47_3 (wrap64 (x12_4 + 1)) (y316.length : Int) x47_3 x283000_23 x283001_23) else (none)) = some (r1, r2) := by first | (rw [hji65] at H; exact H) | (simp only [hji65] at H ⊢; exact H)
                 have hji65w : (IntKind.i64.wrap (32 * x12_4)) = ji65 := (i64_w _).trans hji65
                 by_cases c66 : 0 ≤ (ji65)
                 ·
                  rw [if_pos c66] at H
                  have c66b0 := eq_true c66
                  have c66b1 : decide (0 ≤ (ji65)) = true := d2_ c66
                  clear c66
                  obtain ⟨ji67, hji67⟩ : ∃ j_ : Int, (shl .u64 (IntKind.u64.wrap (rd x283001_23 (ji63))) (ji65)) = j_ := ⟨_, rfl⟩
                  replace H : (spec_ToWords.l1 k4 x7_3 (x10_4.set (x47_3 : Int).toNat (Go.bits .or .u64 (rd x10_4 x47_3) (ji67))) x47_3 (wrap64 (x12_4 + 1)) (y316.length : Int) x47_3 x283000_23 x283001_23) = some (r1, r2) := by first | (rw [hji67] at H; exact H) | (simp only [hji67] at H ⊢; exact H)
                  have hji67_ : (IntKind.u64.wrap ((IntKind.u64.wrap (rd x283001_23 (ji63))) * 2 ^ min (ji65).toNat 64)) = ji67 := hji67
                  have hji67z : (ji65) ≤ 64 → (IntKind.u64.wrap ((IntKind.u64.wrap (rd x283001_23 (ji63))) * 2 ^ (ji65).toNat)) = ji67 := shl_small hji67
                  obtain ⟨y321, hy321⟩ : ∃ y_ : List Int, y_ = (x10_4.set (x47_3 : Int).toNat (Go.bits .or .u64 (rd x10_4 x47_3) (ji67))) := ⟨_, rfl⟩
                  replace H : (spec_ToWords.l1 k4 x7_3 y321 x47_3 (wrap64 (x12_4 + 1)) (y316.length : Int) x47_3 x283000_23 x283001_23) = some (r1, r2) := by first | (rw [hy321]; with_reducible exact H) | (have H2_ := (o2_ _ _).symm.trans H; rw [hy321]; with_reducible exact H2_) | (have H2_ := (o2_ _ _).symm.trans H; with_reducible exact H2_) | with_reducible exact H | (rw [hy321]; exact H) | exact H
                  have Ny321 := a0_ hy321
                  clear hy321
                  have H' := a0_ H
                  clear H
                  have hnb69 := NB282_287.out
                  have hnc69 := NB287_282.out
                  have hcz70_0 : wr.cell? ⟨gb282, 0, none⟩ = some (.bool x283000_23) := (blk_cell BK282.out 0).trans rfl
                  have hcz70_1 : wr.cell? ⟨gb282, 1, none⟩ = some (u283001) := (blk_cell BK282.out 1).trans rfl
                  have hfz70_0 := blk_frozen BK282.out 0
                  have hfz70_1 := blk_frozen BK282.out 1
                  obtain ⟨Ao71, co71, eo71⟩ := Kd.V_slice HO_283001.out
                  subst eo71
                  try go_wp2
                  have n0_ := a0_ (r3_ HO_10.out)
                  have n1_ := a0_ (v3_ HO_283001.out)
                  have n2_ := a0_ (v3_ HO_288001.out)
                  have n3_ := a0_ (k2_ BK282.out)
                  have n4_ := a0_ (k2_ BK287.out)
                  have n5_ := a0_ (b3_ HB.out)
                  clear HO_10
                  clear HO_283001
                  clear HO_288001
                  clear BK282
                  clear BK287
                  clear HB
                  have HO_10 := n0_
                  have HO_283001 := n1_
                  have HO_288001 := n2_
                  have BK282 := n3_
                  have BK287 := n4_
                  have HB := n5_
                  clear n0_ n1_ n2_ n3_ n4_ n5_
                  have p319 : 0 ≤ (x47_3 : Int) := d1_ (by first | (with_reducible assumption) | assumption)
                  have q319 : x47_3 < (x10_4.length : Int) := d1_ (by first | (with_reducible assumption) | assumption)
                  obtain ⟨ad319, e319, hx319_0⟩ := Kd.at_int (Kd.R_reads' HO_10.out).2.2 x47_3 p319 q319
                  cases e319
                  replace p319 := eq_true p319
                  replace q319 := eq_true q319
                  have p320 : 0 ≤ ((ji63) : Int) := d1_ (by first | (with_reducible assumption) | assumption)
                  have q320 : (ji63) < (x283001_23.length : Int) := d1_ (by first | (with_reducible assumption) | assumption)
                  obtain ⟨ad320, e320, hx320_0⟩ := Kd.at_int (Kd.V_reads' HO_283001.out).2.2 (ji63) p320 q320
                  cases e320
                  replace p320 := eq_true p320
                  replace q320 := eq_true q320
                  have p68 : 0 ≤ (x47_3 : Int) := d1_ (by first | (with_reducible assumption) | assumption)
                  have q68 : (x47_3 : Int) < ((x10_4.length : Int) : Int) := d1_ (by first | (with_reducible assumption) | assumption)
                  obtain ⟨go68, co68, eo68, gb68, gl68, cl68, HG68⟩ := Kd.R_form HO_10.out (by omega)
                  (first | cases eo68 | (injection eo68 with ea_ en_ ec_; (first | subst ea_ | (injection ea_ with ea_; subst ea_)); subst ec_; clear en_))
                  have GB68 := a0_ gb68
                  have GG68 := a0_ HG68
                  clear gb68 gl68 HG68
                  (first | simp only [add_plain] at hx319_0 | skip)
                  obtain ⟨hx68_0, hf68_0⟩ := Kd.R_celln 0 HO_10.out (x47_3 : Int) p68 q68
                  replace p68 := eq_true p68
                  replace q68 := eq_true q68
                  have HP73 := Kd.R_putn HO_10.out (x47_3 : Int) (Go.bits .or .u64 (rd x10_4 x47_3) (ji67))
                  rw [← Ny321.out] at HP73
                  have HQ73 := a0_ HP73
                  clear HP73
                  refine start_ (n := 19) (S := fun w' => w'.cell? ⟨gb282, 0, none⟩ = some (.bool x283000_23) ∧ w'.cell? ⟨gb282, 1, none⟩ = some (.slice (some ad320) x283001_23.length co71) ∧ w'.cell? ⟨go68, (x47_3).toNat, none⟩ = some (.int .u64 (rd x10_4 x47_3)) ∧ w'.cell? (ad320.add ((ji63)).toNat) = some (.int .u32 (rd x283001_23 (ji63)))) (ds := [18]) #[false, false, false, false, false, false, false, false, false, false, false, false, false, false, false, false, false, false, false] (by kernel_rfl) rfl rfl ⟨(blk_cell BK282.out 0).trans rfl, (blk_cell BK282.out 1).trans rfl, hx319_0, hx320_0⟩ (fun hHeld => ?_); refine with_tabW spec_ToWords.tab14 spec_ToWords.bits14 (fun HT_ HW_ => ?_)
                  generalize wr.drew = w72 at HO_10 HO_283001 HO_288001 BK282 BK287 HB GG68 HQ73 hf68_0 hx319_0 hx320_0 hx68_0 hHeld ⊢
                  refine pure_ (i := 0) (N := some 62) (v := ?_) (a' := ?_) #[true, false, false, false, false, false, false, false, false, false, false, false, false, false, false, false, false, false, false] rfl rfl (any_of HT_.out (by kernel_rfl)) (fun _ _ _ h => h) (Or.inl ⟨by rfl, ?_⟩) ?_ ?_
                  rotate_left
                  ·
                   intro w'
                   go_simp
                   with_reducible rfl
                  rotate_left
                  ·
                   simp only [Act.put, s1_, s2_, s3_, i64_w, i32_w]
                   rfl
                  refine pure_ (i := 1) (N := some 63) (v := ?_) (a' := ?_) #[true, true, false, false, false, false, false, false, false, false, false, false, false, false, false, false, false, false, false] rfl rfl (any_of HT_.out (by kernel_rfl)) (fun _ _ _ h => h) (Or.inl ⟨by rfl, ?_⟩) ?_ ?_
                  rotate_left
                  ·
                   intro w'
                   go_simp
                   with_reducible rfl
                  rotate_left
                  ·
                   simp only [Act.put, s1_, s2_, s3_, i64_w, i32_w]
                   rfl
                  refine pure_ (i := 2) (N := some 64) (v := ?_) (a' := ?_) #[true, true, true, false, false, false, false, false, false, false, false, false, false, false, false, false, false, false, false] rfl rfl (any_of HT_.out (by kernel_rfl)) (fun _ _ _ h => h) (Or.inl ⟨by rfl, ?_⟩) ?_ ?_
                  rotate_left
                  ·
                   intro w'
                   go_simp
                   with_reducible rfl
                  rotate_left
                  ·
                   simp only [Act.put, s1_, s2_, s3_, i64_w, i32_w]
                   rfl
                  refine pure_ (i := 4) (N := some 66) (v := ?_) (a' := ?_) #[true, true, true, false, true, false, false, false, false, false, false, false, false, false, false, false, false, false, false] rfl rfl (any_of HT_.out (by kernel_rfl)) (fun _ _ _ h => h) (Or.inl ⟨by rfl, ?_⟩) ?_ ?_
                  rotate_left
                  ·
                   intro w'
                   go_simp
                   with_reducible rfl
                  rotate_left
                  ·
                   simp only [Act.put, s1_, s2_, s3_, i64_w, i32_w]
                   rfl
                  refine pure_ (i := 6) (N := some 68) (v := ?_) (a' := ?_) #[true, true, true, false, true, false, true, false, false, false, false, false, false, false, false, false, false, false, false] rfl rfl (any_of HT_.out (by kernel_rfl)) (fun _ _ _ h => h) (Or.inl ⟨by rfl, ?_⟩) ?_ ?_
                  rotate_left
                  ·
                   intro w'
                   go_simp
                   with_reducible rfl
                  rotate_left
                  ·
                   simp only [Act.put, s1_, s2_, s3_, i64_w, i32_w]
                   rfl
                  refine pure_ (i := 7) (N := some 69) (v := ?_) (a' := ?_) #[true, true, true, false, true, false, true, true, false, false, false, false, false, false, false, false, false, false, false] rfl rfl (any_of HT_.out (by kernel_rfl)) (fun _ _ _ h => h) (Or.inl ⟨by rfl, ?_⟩) ?_ ?_
                  rotate_left
                  ·
                   intro w'
                   go_simp
                   with_reducible rfl
                  rotate_left
                  ·
                   simp only [Act.put, s1_, s2_, s3_, i64_w, i32_w]
                   rfl
                  refine pure_ (i := 8) (N := some 70) (v := ?_) (a' := ?_) #[true, true, true, false, true, false, true, true, true, false, false, false, false, false, false, false, false, false, false] rfl rfl (any_of HT_.out (by kernel_rfl)) (fun _ _ _ h => h) (Or.inl ⟨by rfl, ?_⟩) ?_ ?_
                  rotate_left
                  ·
                   intro w'
                   go_simp
                   with_reducible rfl
                  rotate_left
                  ·
                   simp only [Act.put, s1_, s2_, s3_, i64_w, i32_w]
                   rfl
                  refine pure_ (i := 9) (N := some 71) (v := ?_) (a' := ?_) #[true, true, true, false, true, false, true, true, true, true, false, false, false, false, false, false, false, false, false] rfl rfl (any_of HT_.out (by kernel_rfl)) (fun _ _ _ h => h) (Or.inl ⟨by rfl, ?_⟩) ?_ ?_
                  rotate_left
                  ·
                   intro w'
                   go_simp
                   with_reducible rfl
                  rotate_left
                  ·
                   simp only [Act.put, s1_, s2_, s3_, i64_w, i32_w]
                   rfl
                  refine pure_ (i := 13) (N := some 75) (v := ?_) (a' := ?_) #[true, true, true, false, true, false, true, true, true, true, false, false, false, true, false, false, false, false, false] rfl rfl (any_of HT_.out (by kernel_rfl)) (fun _ _ _ h => h) (Or.inl ⟨by rfl, ?_⟩) ?_ ?_
                  rotate_left
                  ·
                   intro w'
                   go_simp
                   with_reducible rfl
                  rotate_left
                  ·
                   simp only [Act.put, s1_, s2_, s3_, i64_w, i32_w]
                   rfl
                  refine pure_ (i := 14) (N := some 76) (v := ?_) (a' := ?_) #[true, true, true, false, true, false, true, true, true, true, false, false, false, true, true, false, false, false, false] rfl rfl (any_of HT_.out (by kernel_rfl)) (fun _ _ _ h => h) (Or.inl ⟨by rfl, ?_⟩) ?_ ?_
                  rotate_left
                  ·
                   intro w'
                   go_simp
                   with_reducible rfl
                  rotate_left
                  ·
                   simp only [Act.put, s1_, s2_, s3_, i64_w, i32_w]
                   rfl
                  refine take_ (i := 3) (N := some 65) (v := ?_) (a' := ?_) #[true, true, true, true, true, false, true, true, true, true, false, false, false, true, true, false, false, false, false] rfl rfl (take_ofW HT_.out HW_.out (by kernel_rfl)) (fun _ _ _ h => h) (Or.inl ⟨by rfl, ?_⟩) hHeld ?_ ?_
                  rotate_left
                  ·
                   rintro w' ⟨s0, s1, s2, s3⟩
                   go_simp
                   with_reducible rfl
                  rotate_left
                  ·
                   simp only [Act.put, s1_, s2_, s3_, i64_w, i32_w]
                   rfl
                  refine take_ (i := 5) (N := some 67) (v := ?_) (a' := ?_) #[true, true, true, true, true, true, true, true, true, true, false, false, false, true, true, false, false, false, false] rfl rfl (take_ofW HT_.out HW_.out (by kernel_rfl)) (fun _ _ _ h => h) (Or.inl ⟨by rfl, ?_⟩) hHeld ?_ ?_
                  rotate_left
                  ·
                   rintro w' ⟨s0, s1, s2, s3⟩
                   go_simp
                   with_reducible rfl
                  rotate_left
                  ·
                   simp only [Act.put, s1_, s2_, s3_, i64_w, i32_w]
                   rfl
                  refine pure_ (i := 10) (N := some 72) (v := ?_) (a' := ?_) #[true, true, true, true, true, true, true, true, true, true, true, false, false, true, true, false, false, false, false] rfl rfl (any_of HT_.out (by kernel_rfl)) (fun _ _ _ h => h) (Or.inl ⟨by rfl, ?_⟩) ?_ ?_
                  rotate_left
                  ·
                   intro w'
                   go_simp
                   with_reducible rfl
                  rotate_left
                  ·
                   simp only [Act.put, s1_, s2_, s3_, i64_w, i32_w]
                   rfl
                  refine take_ (i := 11) (N := some 73) (v := ?_) (a' := ?_) #[true, true, true, true, true, true, true, true, true, true, true, true, false, true, true, false, false, false, false] rfl rfl (take_ofW HT_.out HW_.out (by kernel_rfl)) (fun _ _ _ h => h) (Or.inl ⟨by rfl, ?_⟩) hHeld ?_ ?_
                  rotate_left
                  ·
                   rintro w' ⟨s0, s1, s2, s3⟩
                   go_simp
                   with_reducible rfl
                  rotate_left
                  ·
                   simp only [Act.put, s1_, s2_, s3_, i64_w, i32_w]
                   rfl
                  refine pure_ (i := 12) (N := some 74) (v := ?_) (a' := ?_) #[true, true, true, true, true, true, true, true, true, true, true, true, true, true, true, false, false, false, false] rfl rfl (any_of HT_.out (by kernel_rfl)) (fun _ _ _ h => h) (Or.inl ⟨by rfl, ?_⟩) ?_ ?_
                  rotate_left
                  ·
                   intro w'
                   go_simp
                   with_reducible rfl
                  rotate_left
                  ·
                   simp only [Act.put, s1_, s2_, s3_, i64_w, i32_w]
                   rfl
                  refine pure_ (i := 15) (N := some 77) (v := ?_) (a' := ?_) #[true, true, true, true, true, true, true, true, true, true, true, true, true, true, true, true, false, false, false] rfl rfl (any_of HT_.out (by kernel_rfl)) (fun _ _ _ h => h) (Or.inl ⟨by rfl, ?_⟩) ?_ ?_
                  rotate_left
                  ·
                   intro w'
                   go_simp
                   with_reducible rfl
                  rotate_left
                  ·
                   simp only [Act.put, s1_, s2_, s3_, i64_w, i32_w]
                   rfl
                  refine pure_ (i := 16) (N := some 78) (v := ?_) (a' := ?_) #[true, true, true, true, true, true, true, true, true, true, true, true, true, true, true, true, true, false, false] rfl rfl (any_of HT_.out (by kernel_rfl)) (fun _ _ _ h => h) (Or.inl ⟨by rfl, ?_⟩) ?_ ?_
                  rotate_left
                  ·
                   intro w'
                   go_simp
                   with_reducible rfl
                  rotate_left
                  ·
                   simp only [Act.put, s1_, s2_, s3_, i64_w, i32_w]
                   rfl
                  refine pure_ (i := 17) (N := some 79) (v := ?_) (a' := ?_) #[true, true, true, true, true, true, true, true, true, true, true, true, true, true, true, true, true, true, false] rfl rfl (any_of HT_.out (by kernel_rfl)) (fun _ _ _ h => h) (Or.inl ⟨by rfl, ?_⟩) ?_ ?_
                  rotate_left
                  ·
                   intro w'
                   go_simp
                   with_reducible rfl
                  rotate_left
                  ·
                   simp only [Act.put, s1_, s2_, s3_, i64_w, i32_w]
                   rfl
                  refine last_ (i := 18) (N := none) #[true, true, true, true, true, true, true, true, true, true, true, true, true, true, true, true, true, true, true] rfl rfl (one_of HT_.out (by kernel_rfl)) (by decide) (fun K hK => ?_)
                  refine skip_ (w1 := ?_) (by rfl) rfl ?_ ?_
                  rotate_left
                  ·
                   go_simp
                   rfl
                  refine hK.out _ _ ?_
                  clear hK K
                  refine done_ (done_of HT_.out (by kernel_rfl)) ?_
                  try go_wp2
                  (try simp only [← hl10_4])
                  go_roundg k4
                  case measure => have := HJ3.out; have := HJ23.out; have := HK3.out; have := HK4.out; omega
                  case rel => exact ⟨(y321), (wrap64 (x12_4 + 1)), (by first | rfl | (simp; done) | (simp [*]; done)), H', ⟨by have := HJ3.out; have := HJ23.out; have := HK3.out; have := HK4.out; omega⟩, ⟨by (try simp only [hl10_3]); (try simp only [hl10_4]); (with_reducible repeat (first | apply r1_ | apply r2_ | apply r3_)); exact HQ73.out⟩, ⟨by (try simp only [hl10_3]); (try simp only [hl10_4]); (with_reducible repeat (first | apply v1_ | apply v2_ | apply v3_)); exact v4_ (v5_ (p := ⟨go68, (x47_3 : Int).toNat, none⟩) (v4_ HO_283001.out (fun k_ hk => (⟨hk, fun e_ => hk.2.1 (by rw [e_]; rfl)⟩ : _ ∧ k_ ≠ go68))) (fun _ hk => hk.2) (.int .u64 (Go.bits .or .u64 (rd x10_4 x47_3) (ji67)))) (fun _ hk => ⟨hk.1.1, ⟨hk.1.2.1, ⟨hk.1.2.2.1, hk.1.2.2.2⟩⟩⟩)⟩, ⟨by (try simp only [hl10_3]); (try simp only [hl10_4]); (with_reducible repeat (first | apply v1_ | apply v2_ | apply v3_)); exact v4_ (v5_ (p := ⟨go68, (x47_3 : Int).toNat, none⟩) (v4_ HO_288001.out (fun k_ hk => (⟨hk, fun e_ => hk.2.1 (by rw [e_]; rfl)⟩ : _ ∧ k_ ≠ go68))) (fun _ hk => hk.2) (.int .u64 (Go.bits .or .u64 (rd x10_4 x47_3) (ji67)))) (fun _ hk => ⟨hk.1.1, ⟨hk.1.2.1, ⟨hk.1.2.2.1, hk.1.2.2.2⟩⟩⟩)⟩, ⟨by (try simp only [hl10_3]); (try simp only [hl10_4]); (with_reducible repeat (first | refine k1_ ?_ _ | refine k2_ ?_ | refine k3_ ?_ _)); refine blk_far ?_ (by have h_ := Kd.R_ne HO_10.out BK282.out (by decide); intro e_; exact h_ (by rw [e_]; rfl)) _; (with_reducible repeat (first | refine k1_ ?_ _ | refine k2_ ?_ | refine k3_ ?_ _)); exact BK282.out⟩, ⟨by (try simp only [hl10_3]); (try simp only [hl10_4]); (with_reducible repeat (first | refine k1_ ?_ _ | refine k2_ ?_ | refine k3_ ?_ _)); refine blk_far ?_ (by have h_ := Kd.R_ne HO_10.out BK287.out (by decide); intro e_; exact h_ (by rw [e_]; rfl)) _; (with_reducible repeat (first | refine k1_ ?_ _ | refine k2_ ?_ | refine k3_ ?_ _)); exact BK287.out⟩, ⟨by repeat (first | (with_reducible first | exact HB.out | apply b1_ | apply b2_ | apply b3_ | refine b4_ ?_ GB68.out | refine b4_ ?_ GE282.out | refine b4_ ?_ GE287.out) | exact HB.out)⟩⟩
                 ·
                  rw [if_neg c66] at H
                  exact absurd H (by simp)
                ·
                 rw [if_neg c64] at H
                 exact absurd H (by simp)
               ·
                rw [if_neg c62] at H
                exact absurd H (by simp)
              ·
               rw [if_neg c61] at H
               exact absurd H (by simp)
             ·
              rw [if_neg c60] at H
              have c60b0 : decide ((wrap64 ((wrap64 (2 * x47_3)) + x12_4)) < (x283001_23.length : Int)) = false := d3_ c60
              clear c60
              have H' := a0_ H
              clear H
              have hnb74 := NB282_287.out
              have hnc74 := NB287_282.out
              have hcz75_0 : wr.cell? ⟨gb282, 0, none⟩ = some (.bool x283000_23) := (blk_cell BK282.out 0).trans rfl
              have hcz75_1 : wr.cell? ⟨gb282, 1, none⟩ = some (u283001) := (blk_cell BK282.out 1).trans rfl
              have hfz75_0 := blk_frozen BK282.out 0
              have hfz75_1 := blk_frozen BK282.out 1
              obtain ⟨Ao76, co76, eo76⟩ := Kd.V_slice HO_283001.out
              subst eo76
              go_wp2
              (try simp only [← hl10_4])
              go_roundg k4
              case measure => have := HJ3.out; have := HJ23.out; have := HK3.out; have := HK4.out; omega
              case rel => exact ⟨(x10_4), (wrap64 (x12_4 + 1)), (by first | rfl | (simp; done) | (simp [*]; done)), H', ⟨by have := HJ3.out; have := HJ23.out; have := HK3.out; have := HK4.out; omega⟩, ⟨by (try simp only [hl10_3]); (try simp only [hl10_4]); (with_reducible repeat (first | apply r1_ | apply r2_ | apply r3_)); exact HO_10.out⟩, ⟨by (try simp only [hl10_3]); (try simp only [hl10_4]); (with_reducible repeat (first | apply v1_ | apply v2_ | apply v3_)); exact HO_283001.out⟩, ⟨by (try simp only [hl10_3]); (try simp only [hl10_4]); (with_reducible repeat (first | apply v1_ | apply v2_ | apply v3_)); exact HO_288001.out⟩, ⟨by (try simp only [hl10_3]); (try simp only [hl10_4]); (with_reducible repeat (first | refine k1_ ?_ _ | refine k2_ ?_ | refine k3_ ?_ _)); exact BK282.out⟩, ⟨by (try simp only [hl10_3]); (try simp only [hl10_4]); (with_reducible repeat (first | refine k1_ ?_ _ | refine k2_ ?_ | refine k3_ ?_ _)); exact BK287.out⟩, ⟨by repeat (first | (with_reducible first | exact HB.out | apply b1_ | apply b2_ | apply b3_ | refine b4_ ?_ GE282.out | refine b4_ ?_ GE287.out) | exact HB.out)⟩⟩
            ·
             rw [if_neg c59] at H
             have c59b0 : decide (x12_4 < 2) = false := d3_ c59
             clear c59
             have H' := a0_ H
             clear H
             go_wp2
             (try simp only [← hl10_3, ← hl10_4])
             go_roundg k4
             case measure => have := HJ3.out; have := HJ23.out; have := HK3.out; have := HK4.out; omega
             case rel => exact ⟨(x10_4), (wrap64 (x47_3 + 1)), (by first | rfl | (simp; done) | (simp [*]; done)), H', ⟨by have := HJ3.out; have := HJ23.out; have := HK3.out; have := HK4.out; omega⟩, ⟨by (try simp only [hl10_3]); (try simp only [hl10_4]); (with_reducible repeat (first | apply r1_ | apply r2_ | apply r3_)); exact HO_10.out⟩, ⟨by (try simp only [hl10_3]); (try simp only [hl10_4]); (with_reducible repeat (first | apply v1_ | apply v2_ | apply v3_)); exact HO_283001.out⟩, ⟨by (try simp only [hl10_3]); (try simp only [hl10_4]); (with_reducible repeat (first | apply v1_ | apply v2_ | apply v3_)); exact HO_288001.out⟩, ⟨by (try simp only [hl10_3]); (try simp only [hl10_4]); (with_reducible repeat (first | refine k1_ ?_ _ | refine k2_ ?_ | refine k3_ ?_ _)); exact BK282.out⟩, ⟨by (try simp only [hl10_3]); (try simp only [hl10_4]); (with_reducible repeat (first | refine k1_ ?_ _ | refine k2_ ?_ | refine k3_ ?_ _)); exact BK287.out⟩, ⟨by repeat (first | (with_reducible first | exact HB.out | apply b1_ | apply b2_ | apply b3_ | refine b4_ ?_ GE282.out | refine b4_ ?_ GE287.out) | exact HB.out)⟩⟩
         ·
          rw [if_neg c58] at H
          have c58b0 : decide (x47_3 < (y316.length : Int)) = false := d3_ c58
          have c58bz : decide (x47_3 < (x10_3.length : Int)) = false := hl10_3 ▸ c58b0
          clear c58
          simp only [Option.some.injEq, Prod.mk.injEq] at H
          obtain ⟨rfl, rfl⟩ := H
          go_wp2
          go_ret2
          exact ⟨_, by first | rfl | (simp [e1_, e2_] <;> rfl) | (simp [*, e1_, e2_] <;> rfl), by (with_reducible repeat (first | apply r1_ | apply r2_ | apply r3_)); exact HO_10.out, by repeat (first | (with_reducible first | exact HB.out | apply b1_ | apply b2_ | apply b3_ | refine b4_ ?_ GE282.out | refine b4_ ?_ GE287.out) | exact HB.out)⟩
      ·
       rw [if_neg c54] at H
       exact absurd H (by simp)
     ·
      rw [if_neg c53] at H
      exact absurd H (by simp)


end Go.Proofs.YtiiicmfobljnaaaDoor.V
