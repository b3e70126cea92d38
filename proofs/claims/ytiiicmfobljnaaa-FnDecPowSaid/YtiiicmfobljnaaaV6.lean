import Derived.Test.YtiiicmfobljnaaaV4
import Derived.Test.YtiiicmfobljnaaaT2
namespace Go.Proofs.Ytiiicmfobljnaaa.V
open Go.RowKit Go.Proofs.YtiiicmfobljnaaaW.PrintWords Go.Proofs.YtiiicmfobljnaaaW.PrintLast Go.Proofs.YtiiicmfobljnaaaW.PrintMore
attribute [local go_sem] max2_int min2_int max_two min_two max_three min_three max_four min_four
set_option linter.unusedVariables false
set_option linter.unusedSimpArgs false

/-! ### laws_least: function 37 -/
def laws_least.f (k : Nat) (a0 : Int) (a1_0 : Bool) (l1_1 : List Int) : Option (Bool) := (spec_Two.f k (wrap64 (a0 - 1))).bind fun bt375 => ((spec_Wide_Negated.f k bt375.1 bt375.2).bind fun bt379 => ((spec_WideCmp.f k a1_0 l1_1 bt379.1 bt379.2).bind fun t383 => (some (t383 == 0))))
def laws_least.T1 : Bool × List (List Nat × List Nat) := (true, [([], []), ([], []), ([1], [1]), ([2], [2]), ([3, 3], [3]), ([0, 4, 4], [0, 4]), ([5], [5]), ([6, 5, 0, 1, 2, 3, 4, 5, 6], [6])])
def laws_least.B1 : List Nat := [0, 0, 2, 6, 14, 31, 63, 127]
theorem laws_least.tab1 : rtab .any (opsOf Try.f37 1) = laws_least.T1 := by kernel_rfl
theorem laws_least.bits1 : waitsOk laws_least.T1.2 laws_least.B1 = true := by kernel_rfl
set_option maxHeartbeats 8000000 in
set_option maxRecDepth 100000 in
theorem laws_least.calls (k : Nat) (a0 : Int) (a1_0 : Bool) (A1_1 : Option Addr) (c1_1 : Nat) (l1_1 : List Int) (r : Bool) (w : World) (hr1_1 : Kd.C (Kd.int .u32) w A1_1 l1_1.length l1_1) (hc1_1 : l1_1.length ≤ c1_1) (h : laws_least.f k a0 a1_0 l1_1 = some r) :
  Calls Try.prog 37 #[.int .i64 a0, .agg #[.bool a1_0, .slice A1_1 l1_1.length c1_1]] w fun e w' => e = .returned (.bool r) ∧ Below w.heap.size w w' := by
 have hu29 := Try.underlying29
 have HR1_1 := a0_ hr1_1
 have HC1_1 := a0_ hc1_1
 clear hr1_1 hc1_1
 have HB := a0_ (Below.refl w.heap.size w)
 have H : ((spec_Two.f k (wrap64 (a0 - 1))).bind fun bt375 => ((spec_Wide_Negated.f k bt375.1 bt375.2).bind fun bt379 => ((spec_WideCmp.f k a1_0 l1_1 bt379.1 bt379.2).bind fun t383 => (some (t383 == 0))))) = some r := h
 clear h
 replace H := Option.bind_eq_some_iff.mp H
 obtain ⟨⟨t375, t376⟩, A30, H⟩ := H
 replace H : ((spec_Wide_Negated.f k t375 t376).bind fun bt379 => ((spec_WideCmp.f k a1_0 l1_1 bt379.1 bt379.2).bind fun t383 => (some (t383 == 0)))) = some r := H
 have A3 := a0_ A30
 clear A30
 replace H := Option.bind_eq_some_iff.mp H
 obtain ⟨⟨t379, t380⟩, A40, H⟩ := H
 replace H : ((spec_WideCmp.f k a1_0 l1_1 t379 t380).bind fun t383 => (some (t383 == 0))) = some r := H
 have A4 := a0_ A40
 clear A40
 replace H := Option.bind_eq_some_iff.mp H
 obtain ⟨t383, A50, H⟩ := H
 replace H : (some (t383 == 0)) = some r := H
 have A5 := a0_ A50
 clear A50
 obtain rfl := o1_ H
 go_enter Try.func37, Try.ntmps37
 try go_wp2_with (first | ((with_reducible refine gate_dst (N := 3) rfl ?_); refine box_event ?hg (N := 3) ?hd (cs := #[.bool a1_0, .slice A1_1 l1_1.length c1_1]) (t := 29) ?hr ?_; (case hd => rfl); (case hg => rfl); (case hr => first | (go_simp; done) | (go_simp; rfl)); intro gb374 hg w6 hbox hb; have n0_ := a0_ (below_step (by repeat (first | (with_reducible first | exact HB.out | apply b1_ | apply b2_ | apply b3_) | exact HB.out)) hb); have n1_ := a0_ (hbox); have n2_ := a0_ ((by rw [hg]; exact (below_size (by repeat (first | (with_reducible first | exact HB.out | apply b1_ | apply b2_ | apply b3_) | exact HB.out))) : w.heap.size ≤ gb374)); have n3_ := a0_ ((by rw [hg]; exact (below_size (by repeat (first | (with_reducible first | exact HB.out | apply b1_ | apply b2_ | apply b3_) | exact HB.out))) : w.heap.size ≤ gb374)); clear HB; have HB := n0_; have BK374 := n1_; have GW374 := n2_; have GE374 := n3_; clear n0_ n1_ n2_ n3_; clear hb hbox hg))
 have n0_ := a0_ (k2_ BK374.out)
 have n1_ := a0_ (b3_ HB.out)
 clear BK374
 clear HB
 have BK374 := n0_
 have HB := n1_
 clear n0_ n1_
 refine start_ (n := 8) (S := fun w' => w'.cell? ⟨gb374, 0, none⟩ = some (.bool a1_0) ∧ w'.cell? ⟨gb374, 1, none⟩ = some (.slice A1_1 l1_1.length c1_1)) (ds := []) #[false, false, false, false, false, false, false, false] (by kernel_rfl) rfl rfl ⟨(blk_cell BK374.out 0).trans rfl, (blk_cell BK374.out 1).trans rfl⟩ (fun hHeld => ?_); refine with_tabW laws_least.tab1 laws_least.bits1 (fun HT_ HW_ => ?_)
 generalize w6.drew = w7 at BK374 HB hHeld ⊢
 refine pure_ (i := 1) (N := some 6) (v := ?_) (a' := ?_) #[false, true, false, false, false, false, false, false] rfl rfl (any_of HT_.out (by kernel_rfl)) (fun _ _ _ h => h) (Or.inl ⟨by rfl, ?_⟩) ?_ ?_
 rotate_left
 ·
  intro w'
  go_simp
  with_reducible rfl
 rotate_left
 ·
  simp only [Act.put, s1_, s2_, s3_, i64_w, i32_w]
  rfl
 refine pure_ (i := 2) (N := some 7) (v := ?_) (a' := ?_) #[false, true, true, false, false, false, false, false] rfl rfl (any_of HT_.out (by kernel_rfl)) (fun _ _ _ h => h) (Or.inl ⟨by rfl, ?_⟩) ?_ ?_
 rotate_left
 ·
  intro w'
  go_simp
  with_reducible rfl
 rotate_left
 ·
  simp only [Act.put, s1_, s2_, s3_, i64_w, i32_w]
  rfl
 refine take_ (i := 0) (N := some 5) (v := ?_) (a' := ?_) #[true, true, true, false, false, false, false, false] rfl rfl (take_ofW HT_.out HW_.out (by kernel_rfl)) (fun _ _ _ h => h) (Or.inl ⟨by rfl, ?_⟩) hHeld ?_ ?_
 rotate_left
 ·
  rintro w' ⟨s0, s1⟩
  go_simp
  with_reducible rfl
 rotate_left
 ·
  simp only [Act.put, s1_, s2_, s3_, i64_w, i32_w]
  rfl
 refine one_ (i := 3) (N := some 8) #[true, true, true, true, false, false, false, false] rfl rfl (one_of HT_.out (by kernel_rfl)) (by decide) (fun K hK => ?_)
 refine goes_ Try.func72 (by kernel_rfl) rfl #[.int .i64 (wrap64 (a0 - 1))] (by rfl) rfl rfl (by (try simp only [List.map_toArray, List.map_cons, List.map_nil]); first | done | rfl | (simp only [List.length_drop, List.length_take]; rfl)) ?_
 with_reducible refine (spec_Two.calls k (wrap64 (a0 - 1)) t375 t376 _ A3.out).mono ?_
 rintro e w8 ⟨v377, rfl, ho0, hb⟩
 refine ⟨_, rfl, ?_⟩
 have n0_ := a0_ (Kd.V_lower (v4_ (ok' := fun k_ => k_ ≠ gb374) ho0 (fun k_ hk_ => (Kd.freshB (g := gb374) (o := .cells #[.bool a1_0, .slice A1_1 l1_1.length c1_1] 29 (0, 0)) (by (with_reducible repeat (first | refine k1_ ?_ _ | refine k2_ ?_ | refine k3_ ?_ _)); exact BK374.out) k_ hk_))) (below_size (by repeat (first | (with_reducible first | exact HB.out | apply b1_ | apply b2_ | apply b3_ | refine b4_ ?_ GE374.out) | exact HB.out))))
 have n1_ := a0_ (blk_below (g := gb374) (o := .cells #[.bool a1_0, .slice A1_1 l1_1.length c1_1] 29 (0, 0)) (by (with_reducible repeat (first | refine k1_ ?_ _ | refine k2_ ?_ | refine k3_ ?_ _)); exact BK374.out) hb)
 have n2_ := a0_ (below_step (by repeat (first | (with_reducible first | exact HB.out | apply b1_ | apply b2_ | apply b3_ | refine b4_ ?_ GE374.out) | exact HB.out)) hb)
 clear BK374
 clear HB
 have HO378 := n0_
 have BK374 := n1_
 have HB := n2_
 clear n0_ n1_ n2_
 (try clear hb)
 (try clear hb2)
 (try clear hk)
 (try clear hi)
 (try clear ho0)
 obtain ⟨Ao9, co9, eo9⟩ := Kd.V_slice HO378.out
 (first | subst eo9 | (injection eo9 with f1_ f2_ f3_; have f4_ := f1_.symm; have f5_ := f3_.symm; clear f1_ f2_ f3_; subst f4_; subst f5_))
 refine hK.out _ _ ⟨(blk_cell BK374.out 0).trans rfl, (blk_cell BK374.out 1).trans rfl⟩ (fun hHeld => ?_)
 clear hK K
 refine norm_ (a' := ?_) ?_ ?_
 rotate_left
 ·
  show Act.put _ (some 8) _ = _
  simp only [Act.put, s1_, s2_, s3_, i64_w, i32_w]
  rfl
 refine one_ (i := 4) (N := some 9) #[true, true, true, true, true, false, false, false] rfl rfl (one_of HT_.out (by kernel_rfl)) (by decide) (fun K hK => ?_)
 refine goes_ Try.func16 (by kernel_rfl) rfl #[.agg #[.bool t375, .slice Ao9 t376.length co9]] (by rfl) rfl rfl (by (try simp only [List.map_toArray, List.map_cons, List.map_nil]); first | done | rfl | (simp only [List.length_drop, List.length_take]; rfl)) ?_
 with_reducible refine (spec_Wide_Negated.calls k t375 (fun k_ => k_ ≠ gb374) _ _ t376 t379 t380 _ ?side1 A4.out).mono ?_
 (case side1 => exact HO378.out)
 rintro e w10 ⟨v381, rfl, ho0, hb⟩
 refine ⟨_, rfl, ?_⟩
 have n0_ := a0_ (Kd.V_below (by (with_reducible repeat (first | apply v1_ | apply v2_ | apply v3_)); exact HO378.out) hb)
 have n1_ := a0_ (Kd.V_lower (v4_ (ok' := fun k_ => k_ ≠ gb374) ho0 (fun k_ hk_ => Or.elim hk_ (fun hs_ => hs_) (fun hn_ => (Kd.freshB (g := gb374) (o := .cells #[.bool a1_0, .slice A1_1 l1_1.length c1_1] 29 (0, 0)) (by (with_reducible repeat (first | refine k1_ ?_ _ | refine k2_ ?_ | refine k3_ ?_ _)); exact BK374.out) k_ hn_)))) (below_size (by repeat (first | (with_reducible first | exact HB.out | apply b1_ | apply b2_ | apply b3_ | refine b4_ ?_ GE374.out) | exact HB.out))))
 have n2_ := a0_ (blk_below (g := gb374) (o := .cells #[.bool a1_0, .slice A1_1 l1_1.length c1_1] 29 (0, 0)) (by (with_reducible repeat (first | refine k1_ ?_ _ | refine k2_ ?_ | refine k3_ ?_ _)); exact BK374.out) hb)
 have n3_ := a0_ (below_step (by repeat (first | (with_reducible first | exact HB.out | apply b1_ | apply b2_ | apply b3_ | refine b4_ ?_ GE374.out) | exact HB.out)) hb)
 clear HO378
 clear BK374
 clear HB
 have HO378 := n0_
 have HO382 := n1_
 have BK374 := n2_
 have HB := n3_
 clear n0_ n1_ n2_ n3_
 (try clear hb)
 (try clear hb2)
 (try clear hk)
 (try clear hi)
 (try clear ho0)
 obtain ⟨Ao11, co11, eo11⟩ := Kd.V_slice HO382.out
 (first | subst eo11 | (injection eo11 with f1_ f2_ f3_; have f4_ := f1_.symm; have f5_ := f3_.symm; clear f1_ f2_ f3_; subst f4_; subst f5_))
 refine hK.out _ _ ⟨(blk_cell BK374.out 0).trans rfl, (blk_cell BK374.out 1).trans rfl⟩ (fun hHeld => ?_)
 clear hK K
 refine norm_ (a' := ?_) ?_ ?_
 rotate_left
 ·
  show Act.put _ (some 9) _ = _
  simp only [Act.put, s1_, s2_, s3_, i64_w, i32_w]
  rfl
 refine one_ (i := 5) (N := some 10) #[true, true, true, true, true, true, false, false] rfl rfl (one_of HT_.out (by kernel_rfl)) (by decide) (fun K hK => ?_)
 refine goes_ Try.func21 (by kernel_rfl) rfl #[.agg #[.bool a1_0, .slice A1_1 l1_1.length c1_1], .agg #[.bool t379, .slice Ao11 t380.length co11]] (by rfl) rfl rfl (by (try simp only [List.map_toArray, List.map_cons, List.map_nil]); first | done | rfl | (simp only [List.length_drop, List.length_take]; rfl)) ?_
 with_reducible refine (spec_WideCmp.calls k a1_0 _ _ l1_1 t379 _ _ t380 t383 _ ?side1 ?side2 ?side3 ?side4 A5.out).mono ?_
 (case side1 => repeat (first | exact (Kd.C_below HR1_1.out HB.out) | (with_reducible refine Kd.C_alloc ?_ _) | (with_reducible refine Kd.C_drewN ?_ _) | (with_reducible refine Kd.C_drew ?_)))
 (case side2 => exact HC1_1.out)
 (case side3 => repeat (first | exact (Kd.V_reads' HO382.out).2.2 | (with_reducible refine Kd.C_alloc ?_ _) | (with_reducible refine Kd.C_drewN ?_ _) | (with_reducible refine Kd.C_drew ?_)))
 (case side4 => exact (Kd.V_reads' HO382.out).2.1)
 rintro e w12 ⟨rfl, hb⟩
 refine ⟨_, rfl, ?_⟩
 have n0_ := a0_ (Kd.V_below (by (with_reducible repeat (first | apply v1_ | apply v2_ | apply v3_)); exact HO378.out) hb)
 have n1_ := a0_ (Kd.V_below (by (with_reducible repeat (first | apply v1_ | apply v2_ | apply v3_)); exact HO382.out) hb)
 have n2_ := a0_ (blk_below (g := gb374) (o := .cells #[.bool a1_0, .slice A1_1 l1_1.length c1_1] 29 (0, 0)) (by (with_reducible repeat (first | refine k1_ ?_ _ | refine k2_ ?_ | refine k3_ ?_ _)); exact BK374.out) hb)
 have n3_ := a0_ (below_step (by repeat (first | (with_reducible first | exact HB.out | apply b1_ | apply b2_ | apply b3_ | refine b4_ ?_ GE374.out) | exact HB.out)) hb)
 clear HO378
 clear HO382
 clear BK374
 clear HB
 have HO378 := n0_
 have HO382 := n1_
 have BK374 := n2_
 have HB := n3_
 clear n0_ n1_ n2_ n3_
 (try clear hb)
 (try clear hb2)
 (try clear hk)
 (try clear hi)
 refine hK.out _ _ ⟨(blk_cell BK374.out 0).trans rfl, (blk_cell BK374.out 1).trans rfl⟩ (fun hHeld => ?_)
 clear hK K
 refine norm_ (a' := ?_) ?_ ?_
 rotate_left
 ·
  show Act.put _ (some 10) _ = _
  simp only [Act.put, s1_, s2_, s3_, i64_w, i32_w]
  rfl
 refine pure_ (i := 6) (N := some 11) (v := ?_) (a' := ?_) #[true, true, true, true, true, true, true, false] rfl rfl (any_of HT_.out (by kernel_rfl)) (fun _ _ _ h => h) (Or.inl ⟨by rfl, ?_⟩) ?_ ?_
 rotate_left
 ·
  intro w'
  go_simp
  with_reducible rfl
 rotate_left
 ·
  simp only [Act.put, s1_, s2_, s3_, i64_w, i32_w]
  rfl
 refine pure_ (i := 7) (N := some 4) (v := ?_) (a' := ?_) #[true, true, true, true, true, true, true, true] rfl rfl (any_of HT_.out (by kernel_rfl)) (fun _ _ _ h => h) (Or.inl ⟨by rfl, ?_⟩) ?_ ?_
 rotate_left
 ·
  intro w'
  go_simp
  with_reducible rfl
 rotate_left
 ·
  simp only [Act.put, s1_, s2_, s3_, i64_w, i32_w]
  rfl
 refine done_ (done_of HT_.out (by kernel_rfl)) ?_
 try go_wp2
 go_ret
 exact ⟨by first | rfl | (simp [e1_, e2_] <;> rfl) | (simp [*, e1_, e2_] <;> rfl), by repeat (first | (with_reducible first | exact HB.out | apply b1_ | apply b2_ | apply b3_ | refine b4_ ?_ GE374.out) | exact HB.out)⟩

/-! ### laws_power: function 14 -/
mutual
def laws_power.j0 : Nat → Int → Bool → Bool → List Int → Bool → List Int → Option (List Int × Bool)
 | 0, _, _, _, _, _, _ => none
 | k + 1, x0, x20, x385000, x385001, x386000, x386001 => if x20 = true then (some (([] : List Int), false)) else ((spec_WideInt.f k 1).bind fun bt392 => ((spec_WideInt.f k 0).bind fun bt397 => (laws_power.l0 k x0 x385000 x385001 x386000 x386001 bt392.1 bt392.2 bt397.1 bt397.2)))
def laws_power.l0 : Nat → Int → Bool → List Int → Bool → List Int → Bool → List Int → Bool → List Int → Option (List Int × Bool)
 | 0, _, _, _, _, _, _, _, _, _ => none
 | k + 1, x0, x385000, x385001, x386000, x386001, x397000, x397001, x402000, x402001 => (spec_WideCmp.f k x402000 x402001 x386000 x386001).bind fun t402 => (if t402 < 0 then ((spec_WideMul.f k x397000 x397001 x385000 x385001).bind fun bt407 => ((laws_wrapped.f k x0 bt407.1 bt407.2).bind fun bt411 => (if bt411.2 = true then ((laws_least.f k x0 bt407.1 bt407.2).bind fun t415 => (laws_power.j2 k x0 t415 x385000 x385001 x386000 x386001 bt407.1 bt407.2 x402000 x402001)) else (laws_power.j2 k x0 true x385000 x385001 x386000 x386001 bt407.1 bt407.2 x402000 x402001)))) else ((laws_wrapped.f k x0 x397000 x397001).bind fun bt403 => (some (bt403.1, bt403.2))))
def laws_power.j2 : Nat → Int → Bool → Bool → List Int → Bool → List Int → Bool → List Int → Bool → List Int → Option (List Int × Bool)
 | 0, _, _, _, _, _, _, _, _, _, _ => none
 | k + 1, x0, x45, x385000, x385001, x386000, x386001, x397000, x397001, x402000, x402001 => if x45 = true then (some (([] : List Int), false)) else ((spec_WideInt.f k 1).bind fun bt417 => ((spec_WideAdd.f k x402000 x402001 bt417.1 bt417.2).bind fun bt421 => (laws_power.l0 k x0 x385000 x385001 x386000 x386001 x397000 x397001 bt421.1 bt421.2)))
end
def laws_power.f (k : Nat) (a0 : Int) (a1_0 : Bool) (l1_1 : List Int) (a2_0 : Bool) (l2_1 : List Int) : Option (List Int × Bool) := (spec_Wide_Sign.f a2_0 l2_1).bind fun t386 => (if t386 < 0 then (laws_power.j0 k a0 true a1_0 l1_1 a2_0 l2_1) else ((spec_WideInt.f k 20).bind fun bt387 => ((spec_WideCmp.f k a2_0 l2_1 bt387.1 bt387.2).bind fun t391 => (laws_power.j0 k a0 (decide (t391 > 0)) a1_0 l1_1 a2_0 l2_1))))
def laws_power.T1 : Bool × List (List Nat × List Nat) := (true, [([], []), ([0], [0]), ([1], [1]), ([2, 1], [2]), ([3], [3]), ([3, 3], [3]), ([4, 5, 5, 3], [3, 4, 5]), ([6, 3], [3, 6]), ([3, 7], [3, 7])])
def laws_power.B1 : List Nat := [0, 1, 3, 7, 15, 15, 63, 127, 255]
theorem laws_power.tab1 : rtab .any (opsOf Try.f14 1) = laws_power.T1 := by kernel_rfl
theorem laws_power.bits1 : waitsOk laws_power.T1.2 laws_power.B1 = true := by kernel_rfl
set_option maxHeartbeats 8000000 in
set_option maxRecDepth 100000 in
theorem laws_power.calls (k : Nat) (a0 : Int) (a1_0 : Bool) (A1_1 : Option Addr) (c1_1 : Nat) (l1_1 : List Int) (a2_0 : Bool) (A2_1 : Option Addr) (c2_1 : Nat) (l2_1 : List Int) (r1 : List Int) (r2 : Bool) (w : World) (hr1_1 : Kd.C (Kd.int .u32) w A1_1 l1_1.length l1_1) (hc1_1 : l1_1.length ≤ c1_1) (hr2_1 : Kd.C (Kd.int .u32) w A2_1 l2_1.length l2_1) (hc2_1 : l2_1.length ≤ c2_1) (h : laws_power.f k a0 a1_0 l1_1 a2_0 l2_1 = some (r1, r2)) :
  Calls Try.prog 14 #[.int .i64 a0, .agg #[.bool a1_0, .slice A1_1 l1_1.length c1_1], .agg #[.bool a2_0, .slice A2_1 l2_1.length c2_1]] w fun e w' => ∃ v0_ : Value, e = .returned (.tuple #[v0_, .bool r2]) ∧ Kd.R (Kd.int .u64) 25 w' w.heap.size (fun _ => True) v0_ r1 ∧ Below w.heap.size w w' := by
 have hu29 := Try.underlying29
 have HR1_1 := a0_ hr1_1
 have HC1_1 := a0_ hc1_1
 clear hr1_1 hc1_1
 have HR2_1 := a0_ hr2_1
 have HC2_1 := a0_ hc2_1
 clear hr2_1 hc2_1
 have HB := a0_ (Below.refl w.heap.size w)
 have H : ((spec_Wide_Sign.f a2_0 l2_1).bind fun t386 => (if t386 < 0 then (laws_power.j0 k a0 true a1_0 l1_1 a2_0 l2_1) else ((spec_WideInt.f k 20).bind fun bt387 => ((spec_WideCmp.f k a2_0 l2_1 bt387.1 bt387.2).bind fun t391 => (laws_power.j0 k a0 (decide (t391 > 0)) a1_0 l1_1 a2_0 l2_1))))) = some (r1, r2) := h
 clear h
 have HC4 := a0_ H
 clear H
 go_enter Try.func14, Try.ntmps14
 go_upto_region 1 with (first | ((with_reducible refine gate_dst (N := 4) rfl ?_); refine box_event ?hg (N := 4) ?hd (cs := #[.bool a1_0, .slice A1_1 l1_1.length c1_1]) (t := 29) ?hr ?_; (case hd => rfl); (case hg => rfl); (case hr => first | (go_simp; done) | (go_simp; rfl)); intro gb384 hg w5 hbox hb; have n0_ := a0_ (below_step (by repeat (first | (with_reducible first | exact HB.out | apply b1_ | apply b2_ | apply b3_) | exact HB.out)) hb); have n1_ := a0_ (hbox); have n2_ := a0_ ((by rw [hg]; exact (below_size (by repeat (first | (with_reducible first | exact HB.out | apply b1_ | apply b2_ | apply b3_) | exact HB.out))) : w.heap.size ≤ gb384)); have n3_ := a0_ ((by rw [hg]; exact (below_size (by repeat (first | (with_reducible first | exact HB.out | apply b1_ | apply b2_ | apply b3_) | exact HB.out))) : w.heap.size ≤ gb384)); clear HB; have HB := n0_; have BK384 := n1_; have GW384 := n2_; have GE384 := n3_; clear n0_ n1_ n2_ n3_; clear hb hbox hg) | ((with_reducible refine gate_dst (N := 5) rfl ?_); refine box_event ?hg (N := 5) ?hd (cs := #[.bool a2_0, .slice A2_1 l2_1.length c2_1]) (t := 29) ?hr ?_; (case hd => rfl); (case hg => rfl); (case hr => first | (go_simp; done) | (go_simp; rfl)); intro gb385 hg w6 hbox hb; have n0_ := a0_ (blk_below (g := gb384) (o := .cells #[.bool a1_0, .slice A1_1 l1_1.length c1_1] 29 (0, 0)) (by (with_reducible repeat (first | refine k1_ ?_ _ | refine k2_ ?_ | refine k3_ ?_ _)); exact BK384.out) hb); have n1_ := a0_ (below_step (by repeat (first | (with_reducible first | exact HB.out | apply b1_ | apply b2_ | apply b3_ | refine b4_ ?_ GE384.out) | exact HB.out)) hb); have n2_ := a0_ (hbox); have n3_ := a0_ ((by rw [hg]; exact (below_size (by repeat (first | (with_reducible first | exact HB.out | apply b1_ | apply b2_ | apply b3_ | refine b4_ ?_ GE384.out) | exact HB.out))) : w.heap.size ≤ gb385)); have n4_ := a0_ ((by rw [hg]; exact (below_size (by repeat (first | (with_reducible first | exact HB.out | apply b1_ | apply b2_ | apply b3_ | refine b4_ ?_ GE384.out) | exact HB.out))) : w.heap.size ≤ gb385)); have n5_ := a0_ ((by rw [hg]; exact Nat.ne_of_lt (blk_lt (g := gb384) (o := .cells #[.bool a1_0, .slice A1_1 l1_1.length c1_1] 29 (0, 0)) (by (with_reducible repeat (first | refine k1_ ?_ _ | refine k2_ ?_ | refine k3_ ?_ _)); exact BK384.out)) : gb384 ≠ gb385)); have n6_ := a0_ ((by rw [hg]; exact Nat.ne_of_gt (blk_lt (g := gb384) (o := .cells #[.bool a1_0, .slice A1_1 l1_1.length c1_1] 29 (0, 0)) (by (with_reducible repeat (first | refine k1_ ?_ _ | refine k2_ ?_ | refine k3_ ?_ _)); exact BK384.out)) : gb385 ≠ gb384)); clear BK384; clear HB; have BK384 := n0_; have HB := n1_; have BK385 := n2_; have GW385 := n3_; have GE385 := n4_; have NB384_385 := n5_; have NB385_384 := n6_; clear n0_ n1_ n2_ n3_ n4_ n5_ n6_; clear hb hbox hg))
 (try simp only [Act.put, s1_, s2_, s3_])
 go_cut [20] (fun v20 wc => ∃ (kq : Nat) (x20_3 : Bool), v20 = .bool x20_3 ∧ Aside0 (laws_power.j0 kq a0 x20_3 a1_0 l1_1 a2_0 l2_1 = some (r1, r2)) ∧ Aside0 (kq ≤ k) ∧ Aside0 (wc.heap[gb384]? = some (.cells #[.bool a1_0, (.slice A1_1 l1_1.length c1_1)] 29 (0, 0))) ∧ Aside0 (wc.heap[gb385]? = some (.cells #[.bool a2_0, (.slice A2_1 l2_1.length c2_1)] 29 (0, 0))) ∧ Aside0 (Below w.heap.size w wc))
 case first =>
  have H := HC4.out
  clear HC4
  replace H := Option.bind_eq_some_iff.mp H
  obtain ⟨t386, A70, H⟩ := H
  replace H : (if t386 < 0 then (laws_power.j0 k a0 true a1_0 l1_1 a2_0 l2_1) else ((spec_WideInt.f k 20).bind fun bt387 => ((spec_WideCmp.f k a2_0 l2_1 bt387.1 bt387.2).bind fun t391 => (laws_power.j0 k a0 (decide (t391 > 0)) a1_0 l1_1 a2_0 l2_1)))) = some (r1, r2) := H
  have A7 := a0_ A70
  clear A70
  by_cases c8 : t386 < 0
  ·
   rw [if_pos c8] at H
   have c8b0 : decide (t386 < 0) = true := d2_ c8
   clear c8
   (first | rw [c8b0] | (simp only [i64_w, i32_w]; rw [c8b0]) | skip)
   have H' := a0_ H
   clear H
   try go_wp2
   have n0_ := a0_ (k2_ BK384.out)
   have n1_ := a0_ (k2_ BK385.out)
   have n2_ := a0_ (b3_ HB.out)
   clear BK384
   clear BK385
   clear HB
   have BK384 := n0_
   have BK385 := n1_
   have HB := n2_
   clear n0_ n1_ n2_
   refine start_ (n := 9) (S := fun w' => w'.cell? ⟨gb385, 0, none⟩ = some (.bool a2_0) ∧ w'.cell? ⟨gb385, 1, none⟩ = some (.slice A2_1 l2_1.length c2_1)) (ds := []) #[false, false, false, false, false, false, false, false, false] (by kernel_rfl) rfl rfl ⟨(blk_cell BK385.out 0).trans rfl, (blk_cell BK385.out 1).trans rfl⟩ (fun hHeld => ?_); refine with_tabW laws_power.tab1 laws_power.bits1 (fun HT_ HW_ => ?_)
   generalize w6.drew = w9 at BK384 BK385 HB hHeld ⊢
   refine take_ (i := 0) (N := some 12) (v := ?_) (a' := ?_) #[true, false, false, false, false, false, false, false, false] rfl rfl (take_ofW HT_.out HW_.out (by kernel_rfl)) (fun _ _ _ h => h) (Or.inl ⟨by rfl, ?_⟩) hHeld ?_ ?_
   rotate_left
   ·
    rintro w' ⟨s0, s1⟩
    go_simp
    with_reducible rfl
   rotate_left
   ·
    simp only [Act.put, s1_, s2_, s3_, i64_w, i32_w]
    rfl
   refine one_ (i := 1) (N := some 13) #[true, true, false, false, false, false, false, false, false] rfl rfl (one_of HT_.out (by kernel_rfl)) (by decide) (fun K hK => ?_)
   refine goes_ Try.func10 (by kernel_rfl) rfl #[.agg #[.bool a2_0, .slice A2_1 l2_1.length c2_1]] (by rfl) rfl rfl (by (try simp only [List.map_toArray, List.map_cons, List.map_nil]); first | done | rfl | (simp only [List.length_drop, List.length_take]; rfl)) ?_
   with_reducible refine (spec_Wide_Sign.calls a2_0 _ _ l2_1 t386 _ ?side1 ?side2 A7.out).mono ?_
   (case side1 => repeat (first | exact (Kd.C_below HR2_1.out HB.out) | (with_reducible refine Kd.C_alloc ?_ _) | (with_reducible refine Kd.C_drewN ?_ _) | (with_reducible refine Kd.C_drew ?_)))
   (case side2 => exact HC2_1.out)
   rintro e w10 ⟨rfl, hb⟩
   refine ⟨_, rfl, ?_⟩
   have n0_ := a0_ (blk_below (g := gb384) (o := .cells #[.bool a1_0, .slice A1_1 l1_1.length c1_1] 29 (0, 0)) (by (with_reducible repeat (first | refine k1_ ?_ _ | refine k2_ ?_ | refine k3_ ?_ _)); exact BK384.out) hb)
   have n1_ := a0_ (blk_below (g := gb385) (o := .cells #[.bool a2_0, .slice A2_1 l2_1.length c2_1] 29 (0, 0)) (by (with_reducible repeat (first | refine k1_ ?_ _ | refine k2_ ?_ | refine k3_ ?_ _)); exact BK385.out) hb)
   have n2_ := a0_ (below_step (by repeat (first | (with_reducible first | exact HB.out | apply b1_ | apply b2_ | apply b3_ | refine b4_ ?_ GE384.out | refine b4_ ?_ GE385.out) | exact HB.out)) hb)
   clear BK384
   clear BK385
   clear HB
   have BK384 := n0_
   have BK385 := n1_
   have HB := n2_
   clear n0_ n1_ n2_
   (try clear hb)
   (try clear hb2)
   (try clear hk)
   (try clear hi)
   refine hK.out _ _ ⟨(blk_cell BK385.out 0).trans rfl, (blk_cell BK385.out 1).trans rfl⟩ (fun hHeld => ?_)
   clear hK K
   refine norm_ (a' := ?_) ?_ ?_
   rotate_left
   ·
    show Act.put _ (some 13) _ = _
    simp only [Act.put, s1_, s2_, s3_, i64_w, i32_w]
    rfl
   refine pure_ (i := 2) (N := some 14) (v := ?_) (a' := ?_) #[true, true, true, false, false, false, false, false, false] rfl rfl (any_of HT_.out (by kernel_rfl)) (fun _ _ _ h => h) (Or.inl ⟨by rfl, ?_⟩) ?_ ?_
   rotate_left
   ·
    intro w'
    go_simp
    with_reducible rfl
   rotate_left
   ·
    simp only [Act.put, s1_, s2_, s3_, i64_w, i32_w]
    rfl
   refine pure_ (i := 3) (N := some 15) (v := ?_) (a' := ?_) #[true, true, true, true, false, false, false, false, false] rfl rfl (any_of HT_.out (by kernel_rfl)) (fun _ _ _ h => h) (Or.inl ⟨by rfl, ?_⟩) ?_ ?_
   rotate_left
   ·
    intro w'
    go_simp
    with_reducible rfl
   rotate_left
   ·
    simp only [Act.put, s1_, s2_, s3_, i64_w, i32_w]
    rfl
   refine pure_ (i := 4) (N := some 16) (v := undef) (a' := ?_) #[true, true, true, true, true, false, false, false, false] rfl rfl (any_of HT_.out (by kernel_rfl)) (fun _ _ _ h => h) (Or.inr ⟨by rfl, rfl⟩) ?_ ?_
   rotate_left
   ·
    simp only [Act.put, s1_, s2_, s3_, i64_w, i32_w]
    rfl
   refine pure_ (i := 5) (N := some 17) (v := undef) (a' := ?_) #[true, true, true, true, true, true, false, false, false] rfl rfl (any_of HT_.out (by kernel_rfl)) (fun _ _ _ h => h) (Or.inr ⟨by rfl, rfl⟩) ?_ ?_
   rotate_left
   ·
    simp only [Act.put, s1_, s2_, s3_, i64_w, i32_w]
    rfl
   refine pure_ (i := 6) (N := some 18) (v := undef) (a' := ?_) #[true, true, true, true, true, true, true, false, false] rfl rfl (any_of HT_.out (by kernel_rfl)) (fun _ _ _ h => h) (Or.inr ⟨by rfl, rfl⟩) ?_ ?_
   rotate_left
   ·
    simp only [Act.put, s1_, s2_, s3_, i64_w, i32_w]
    rfl
   refine pure_ (i := 7) (N := some 19) (v := undef) (a' := ?_) #[true, true, true, true, true, true, true, true, false] rfl rfl (any_of HT_.out (by kernel_rfl)) (fun _ _ _ h => h) (Or.inr ⟨by rfl, rfl⟩) ?_ ?_
   rotate_left
   ·
    simp only [Act.put, s1_, s2_, s3_, i64_w, i32_w]
    rfl
   refine pure_ (i := 8) (N := some 20) (v := ?_) (a' := ?_) #[true, true, true, true, true, true, true, true, true] rfl rfl (any_of HT_.out (by kernel_rfl)) (fun _ _ _ h => h) (Or.inl ⟨by rfl, ?_⟩) ?_ ?_
   rotate_left
   ·
    intro w'
    go_simp
    with_reducible rfl
   rotate_left
   ·
    simp only [Act.put, s1_, s2_, s3_, i64_w, i32_w]
    rfl
   refine done_ (done_of HT_.out (by kernel_rfl)) ?_
   try go_wp2
   go_meet
   case rel => exact ⟨_, (true), (by first | rfl | (simp; done) | (simp [*]; done)), H', ⟨by first | omega | exact Nat.le_refl _⟩, ⟨by (with_reducible repeat (first | refine k1_ ?_ _ | refine k2_ ?_ | refine k3_ ?_ _)); exact BK384.out⟩, ⟨by (with_reducible repeat (first | refine k1_ ?_ _ | refine k2_ ?_ | refine k3_ ?_ _)); exact BK385.out⟩, ⟨by repeat (first | (with_reducible first | exact HB.out | apply b1_ | apply b2_ | apply b3_ | refine b4_ ?_ GE384.out | refine b4_ ?_ GE385.out) | exact HB.out)⟩⟩
  ·
   rw [if_neg c8] at H
   have c8b0 : decide (t386 < 0) = false := d3_ c8
   clear c8
   (first | rw [c8b0] | (simp only [i64_w, i32_w]; rw [c8b0]) | skip)
   replace H := Option.bind_eq_some_iff.mp H
   obtain ⟨⟨t387, t388⟩, A110, H⟩ := H
   replace H : ((spec_WideCmp.f k a2_0 l2_1 t387 t388).bind fun t391 => (laws_power.j0 k a0 (decide (t391 > 0)) a1_0 l1_1 a2_0 l2_1)) = some (r1, r2) := H
   have A11 := a0_ A110
   clear A110
   replace H := Option.bind_eq_some_iff.mp H
   obtain ⟨t391, A120, H⟩ := H
   replace H : (laws_power.j0 k a0 (decide (t391 > 0)) a1_0 l1_1 a2_0 l2_1) = some (r1, r2) := H
   have A12 := a0_ A120
   clear A120
   have H' := a0_ H
   clear H
   try go_wp2
   have n0_ := a0_ (k2_ BK384.out)
   have n1_ := a0_ (k2_ BK385.out)
   have n2_ := a0_ (b3_ HB.out)
   clear BK384
   clear BK385
   clear HB
   have BK384 := n0_
   have BK385 := n1_
   have HB := n2_
   clear n0_ n1_ n2_
   refine start_ (n := 9) (S := fun w' => w'.cell? ⟨gb385, 0, none⟩ = some (.bool a2_0) ∧ w'.cell? ⟨gb385, 1, none⟩ = some (.slice A2_1 l2_1.length c2_1)) (ds := []) #[false, false, false, false, false, false, false, false, false] (by kernel_rfl) rfl rfl ⟨(blk_cell BK385.out 0).trans rfl, (blk_cell BK385.out 1).trans rfl⟩ (fun hHeld => ?_); refine with_tabW laws_power.tab1 laws_power.bits1 (fun HT_ HW_ => ?_)
   generalize w6.drew = w13 at BK384 BK385 HB hHeld ⊢
   refine take_ (i := 0) (N := some 12) (v := ?_) (a' := ?_) #[true, false, false, false, false, false, false, false, false] rfl rfl (take_ofW HT_.out HW_.out (by kernel_rfl)) (fun _ _ _ h => h) (Or.inl ⟨by rfl, ?_⟩) hHeld ?_ ?_
   rotate_left
   ·
    rintro w' ⟨s0, s1⟩
    go_simp
    with_reducible rfl
   rotate_left
   ·
    simp only [Act.put, s1_, s2_, s3_, i64_w, i32_w]
    rfl
   refine one_ (i := 1) (N := some 13) #[true, true, false, false, false, false, false, false, false] rfl rfl (one_of HT_.out (by kernel_rfl)) (by decide) (fun K hK => ?_)
   refine goes_ Try.func10 (by kernel_rfl) rfl #[.agg #[.bool a2_0, .slice A2_1 l2_1.length c2_1]] (by rfl) rfl rfl (by (try simp only [List.map_toArray, List.map_cons, List.map_nil]); first | done | rfl | (simp only [List.length_drop, List.length_take]; rfl)) ?_
   with_reducible refine (spec_Wide_Sign.calls a2_0 _ _ l2_1 t386 _ ?side1 ?side2 A7.out).mono ?_
   (case side1 => repeat (first | exact (Kd.C_below HR2_1.out HB.out) | (with_reducible refine Kd.C_alloc ?_ _) | (with_reducible refine Kd.C_drewN ?_ _) | (with_reducible refine Kd.C_drew ?_)))
   (case side2 => exact HC2_1.out)
   rintro e w14 ⟨rfl, hb⟩
   refine ⟨_, rfl, ?_⟩
   have n0_ := a0_ (blk_below (g := gb384) (o := .cells #[.bool a1_0, .slice A1_1 l1_1.length c1_1] 29 (0, 0)) (by (with_reducible repeat (first | refine k1_ ?_ _ | refine k2_ ?_ | refine k3_ ?_ _)); exact BK384.out) hb)
   have n1_ := a0_ (blk_below (g := gb385) (o := .cells #[.bool a2_0, .slice A2_1 l2_1.length c2_1] 29 (0, 0)) (by (with_reducible repeat (first | refine k1_ ?_ _ | refine k2_ ?_ | refine k3_ ?_ _)); exact BK385.out) hb)
   have n2_ := a0_ (below_step (by repeat (first | (with_reducible first | exact HB.out | apply b1_ | apply b2_ | apply b3_ | refine b4_ ?_ GE384.out | refine b4_ ?_ GE385.out) | exact HB.out)) hb)
   clear BK384
   clear BK385
   clear HB
   have BK384 := n0_
   have BK385 := n1_
   have HB := n2_
   clear n0_ n1_ n2_
   (try clear hb)
   (try clear hb2)
   (try clear hk)
   (try clear hi)
   refine hK.out _ _ ⟨(blk_cell BK385.out 0).trans rfl, (blk_cell BK385.out 1).trans rfl⟩ (fun hHeld => ?_)
   clear hK K
   refine norm_ (a' := ?_) ?_ ?_
   rotate_left
   ·
    show Act.put _ (some 13) _ = _
    simp only [Act.put, s1_, s2_, s3_, i64_w, i32_w]
    rfl
   refine pure_ (i := 2) (N := some 14) (v := ?_) (a' := ?_) #[true, true, true, false, false, false, false, false, false] rfl rfl (any_of HT_.out (by kernel_rfl)) (fun _ _ _ h => h) (Or.inl ⟨by rfl, ?_⟩) ?_ ?_
   rotate_left
   ·
    intro w'
    go_simp
    with_reducible rfl
   rotate_left
   ·
    simp only [Act.put, s1_, s2_, s3_, i64_w, i32_w]
    rfl
   refine pure_ (i := 3) (N := some 15) (v := ?_) (a' := ?_) #[true, true, true, true, false, false, false, false, false] rfl rfl (any_of HT_.out (by kernel_rfl)) (fun _ _ _ h => h) (Or.inl ⟨by rfl, ?_⟩) ?_ ?_
   rotate_left
   ·
    intro w'
    go_simp
    with_reducible rfl
   rotate_left
   ·
    simp only [Act.put, s1_, s2_, s3_, i64_w, i32_w]
    rfl
   refine take_ (i := 4) (N := some 16) (v := ?_) (a' := ?_) #[true, true, true, true, true, false, false, false, false] rfl rfl (take_ofW HT_.out HW_.out (by kernel_rfl)) (fun _ _ _ h => h) (Or.inl ⟨by rfl, ?_⟩) hHeld ?_ ?_
   rotate_left
   ·
    rintro w' ⟨s0, s1⟩
    go_simp
    with_reducible rfl
   rotate_left
   ·
    simp only [Act.put, s1_, s2_, s3_, i64_w, i32_w]
    rfl
   refine one_ (i := 5) (N := some 17) #[true, true, true, true, true, true, false, false, false] rfl rfl (one_of HT_.out (by kernel_rfl)) (by decide) (fun K hK => ?_)
   refine goes_ Try.func35 (by kernel_rfl) rfl #[.int .i64 20] (by rfl) rfl rfl (by (try simp only [List.map_toArray, List.map_cons, List.map_nil]); first | done | rfl | (simp only [List.length_drop, List.length_take]; rfl)) ?_
   with_reducible refine (spec_WideInt.calls k 20 t387 t388 _ A11.out).mono ?_
   rintro e w15 ⟨v389, rfl, ho0, hb⟩
   refine ⟨_, rfl, ?_⟩
   have n0_ := a0_ (Kd.V_lower (v4_ (ok' := fun k_ => k_ ≠ gb384 ∧ k_ ≠ gb385) ho0 (fun k_ hk_ => ⟨(Kd.freshB (g := gb384) (o := .cells #[.bool a1_0, .slice A1_1 l1_1.length c1_1] 29 (0, 0)) (by (with_reducible repeat (first | refine k1_ ?_ _ | refine k2_ ?_ | refine k3_ ?_ _)); exact BK384.out) k_ hk_), (Kd.freshB (g := gb385) (o := .cells #[.bool a2_0, .slice A2_1 l2_1.length c2_1] 29 (0, 0)) (by (with_reducible repeat (first | refine k1_ ?_ _ | refine k2_ ?_ | refine k3_ ?_ _)); exact BK385.out) k_ hk_)⟩)) (below_size (by repeat (first | (with_reducible first | exact HB.out | apply b1_ | apply b2_ | apply b3_ | refine b4_ ?_ GE384.out | refine b4_ ?_ GE385.out) | exact HB.out))))
   have n1_ := a0_ (blk_below (g := gb384) (o := .cells #[.bool a1_0, .slice A1_1 l1_1.length c1_1] 29 (0, 0)) (by (with_reducible repeat (first | refine k1_ ?_ _ | refine k2_ ?_ | refine k3_ ?_ _)); exact BK384.out) hb)
   have n2_ := a0_ (blk_below (g := gb385) (o := .cells #[.bool a2_0, .slice A2_1 l2_1.length c2_1] 29 (0, 0)) (by (with_reducible repeat (first | refine k1_ ?_ _ | refine k2_ ?_ | refine k3_ ?_ _)); exact BK385.out) hb)
   have n3_ := a0_ (below_step (by repeat (first | (with_reducible first | exact HB.out | apply b1_ | apply b2_ | apply b3_ | refine b4_ ?_ GE384.out | refine b4_ ?_ GE385.out) | exact HB.out)) hb)
   clear BK384
   clear BK385
   clear HB
   have HO390 := n0_
   have BK384 := n1_
   have BK385 := n2_
   have HB := n3_
   clear n0_ n1_ n2_ n3_
   (try clear hb)
   (try clear hb2)
   (try clear hk)
   (try clear hi)
   (try clear ho0)
   obtain ⟨Ao16, co16, eo16⟩ := Kd.V_slice HO390.out
   (first | subst eo16 | (injection eo16 with f1_ f2_ f3_; have f4_ := f1_.symm; have f5_ := f3_.symm; clear f1_ f2_ f3_; subst f4_; subst f5_))
   refine hK.out _ _ ⟨(blk_cell BK385.out 0).trans rfl, (blk_cell BK385.out 1).trans rfl⟩ (fun hHeld => ?_)
   clear hK K
   refine norm_ (a' := ?_) ?_ ?_
   rotate_left
   ·
    show Act.put _ (some 17) _ = _
    simp only [Act.put, s1_, s2_, s3_, i64_w, i32_w]
    rfl
   refine one_ (i := 6) (N := some 18) #[true, true, true, true, true, true, true, false, false] rfl rfl (one_of HT_.out (by kernel_rfl)) (by decide) (fun K hK => ?_)
   refine goes_ Try.func21 (by kernel_rfl) rfl #[.agg #[.bool a2_0, .slice A2_1 l2_1.length c2_1], .agg #[.bool t387, .slice Ao16 t388.length co16]] (by rfl) rfl rfl (by (try simp only [List.map_toArray, List.map_cons, List.map_nil]); first | done | rfl | (simp only [List.length_drop, List.length_take]; rfl)) ?_
   with_reducible refine (spec_WideCmp.calls k a2_0 _ _ l2_1 t387 _ _ t388 t391 _ ?side1 ?side2 ?side3 ?side4 A12.out).mono ?_
   (case side1 => repeat (first | exact (Kd.C_below HR2_1.out HB.out) | (with_reducible refine Kd.C_alloc ?_ _) | (with_reducible refine Kd.C_drewN ?_ _) | (with_reducible refine Kd.C_drew ?_)))
   (case side2 => exact HC2_1.out)
   (case side3 => repeat (first | exact (Kd.V_reads' HO390.out).2.2 | (with_reducible refine Kd.C_alloc ?_ _) | (with_reducible refine Kd.C_drewN ?_ _) | (with_reducible refine Kd.C_drew ?_)))
   (case side4 => exact (Kd.V_reads' HO390.out).2.1)
   rintro e w17 ⟨rfl, hb⟩
   refine ⟨_, rfl, ?_⟩
   have n0_ := a0_ (Kd.V_below (by (with_reducible repeat (first | apply v1_ | apply v2_ | apply v3_)); exact HO390.out) hb)
   have n1_ := a0_ (blk_below (g := gb384) (o := .cells #[.bool a1_0, .slice A1_1 l1_1.length c1_1] 29 (0, 0)) (by (with_reducible repeat (first | refine k1_ ?_ _ | refine k2_ ?_ | refine k3_ ?_ _)); exact BK384.out) hb)
   have n2_ := a0_ (blk_below (g := gb385) (o := .cells #[.bool a2_0, .slice A2_1 l2_1.length c2_1] 29 (0, 0)) (by (with_reducible repeat (first | refine k1_ ?_ _ | refine k2_ ?_ | refine k3_ ?_ _)); exact BK385.out) hb)
   have n3_ := a0_ (below_step (by repeat (first | (with_reducible first | exact HB.out | apply b1_ | apply b2_ | apply b3_ | refine b4_ ?_ GE384.out | refine b4_ ?_ GE385.out) | exact HB.out)) hb)
   clear HO390
   clear BK384
   clear BK385
   clear HB
   have HO390 := n0_
   have BK384 := n1_
   have BK385 := n2_
   have HB := n3_
   clear n0_ n1_ n2_ n3_
   (try clear hb)
   (try clear hb2)
   (try clear hk)
   (try clear hi)
   refine hK.out _ _ ⟨(blk_cell BK385.out 0).trans rfl, (blk_cell BK385.out 1).trans rfl⟩ (fun hHeld => ?_)
   clear hK K
   refine norm_ (a' := ?_) ?_ ?_
   rotate_left
   ·
    show Act.put _ (some 18) _ = _
    simp only [Act.put, s1_, s2_, s3_, i64_w, i32_w]
    rfl
   refine pure_ (i := 7) (N := some 19) (v := ?_) (a' := ?_) #[true, true, true, true, true, true, true, true, false] rfl rfl (any_of HT_.out (by kernel_rfl)) (fun _ _ _ h => h) (Or.inl ⟨by rfl, ?_⟩) ?_ ?_
   rotate_left
   ·
    intro w'
    go_simp
    with_reducible rfl
   rotate_left
   ·
    simp only [Act.put, s1_, s2_, s3_, i64_w, i32_w]
    rfl
   refine pure_ (i := 8) (N := some 20) (v := ?_) (a' := ?_) #[true, true, true, true, true, true, true, true, true] rfl rfl (any_of HT_.out (by kernel_rfl)) (fun _ _ _ h => h) (Or.inl ⟨by rfl, ?_⟩) ?_ ?_
   rotate_left
   ·
    intro w'
    go_simp
    with_reducible rfl
   rotate_left
   ·
    simp only [Act.put, s1_, s2_, s3_, i64_w, i32_w]
    rfl
   refine done_ (done_of HT_.out (by kernel_rfl)) ?_
   try go_wp2
   go_meet
   case rel => exact ⟨_, (decide (t391 > 0)), (by first | rfl | (simp; done) | (simp [*]; done)), H', ⟨by first | omega | exact Nat.le_refl _⟩, ⟨by (with_reducible repeat (first | refine k1_ ?_ _ | refine k2_ ?_ | refine k3_ ?_ _)); exact BK384.out⟩, ⟨by (with_reducible repeat (first | refine k1_ ?_ _ | refine k2_ ?_ | refine k3_ ?_ _)); exact BK385.out⟩, ⟨by repeat (first | (with_reducible first | exact HB.out | apply b1_ | apply b2_ | apply b3_ | refine b4_ ?_ GE384.out | refine b4_ ?_ GE385.out) | exact HB.out)⟩⟩
 case rest =>
  clear HC4
  try clear c1
  try clear c2
  try clear p2
  try clear c3
  try clear c8
  try clear c8b0
  try clear c10
  try clear c14
  obtain ⟨kq, x20_3, rfl, HA, HJ3, BK384, BK385, HB⟩ := hcut
  cases kq with
  | zero => exact absurd HA.out (by simp [laws_power.j0])
  | succ kj3 =>
   have H := HA.out
   clear HA
   simp only [laws_power.j0] at H
   by_cases c18 : x20_3 = true
   ·
    subst c18
    have H1 : (some (([] : List Int), false)) = some (r1, r2) := by rw [if_pos rfl] at H; exact H
    clear H
    have H := H1
    clear H1
    simp only [Option.some.injEq, Prod.mk.injEq] at H
    obtain ⟨rfl, rfl⟩ := H
    go_wp2
    go_ret2
    exact ⟨_, by first | rfl | (simp [e1_, e2_] <;> rfl) | (simp [*, e1_, e2_] <;> rfl), by first | exact Kd.R_nil _ _ _ _ _ | exact Kd.N_nil _ _ _ _ _ | exact Kd.V_nil _ _ _ _ _ | exact Kd.Q_nil _ _ _ _ _ | exact Kd.S_nil _ _ _ _ _, by repeat (first | (with_reducible first | exact HB.out | apply b1_ | apply b2_ | apply b3_ | refine b4_ ?_ GE384.out | refine b4_ ?_ GE385.out) | exact HB.out)⟩
   ·
    replace c18 := Bool.eq_false_iff.mpr c18
    subst c18
    have H1 : ((spec_WideInt.f kj3 1).bind fun bt392 => ((spec_WideInt.f kj3 0).bind fun bt397 => (laws_power.l0 kj3 a0 a1_0 l1_1 a2_0 l2_1 bt392.1 bt392.2 bt397.1 bt397.2))) = some (r1, r2) := by rw [if_neg (show ¬ (false = true) by decide)] at H; exact H
    clear H
    have H := H1
    clear H1
    replace H := Option.bind_eq_some_iff.mp H
    obtain ⟨⟨t392, t393⟩, A190, H⟩ := H
    replace H : ((spec_WideInt.f kj3 0).bind fun bt397 => (laws_power.l0 kj3 a0 a1_0 l1_1 a2_0 l2_1 t392 t393 bt397.1 bt397.2)) = some (r1, r2) := H
    have A19 := a0_ A190
    clear A190
    replace H := Option.bind_eq_some_iff.mp H
    obtain ⟨⟨t397, t398⟩, A200, H⟩ := H
    replace H : (laws_power.l0 kj3 a0 a1_0 l1_1 a2_0 l2_1 t392 t393 t397 t398) = some (r1, r2) := H
    have A20 := a0_ A200
    clear A200
    have H' := a0_ H
    clear H
    go_wp2_with (first | ((with_reducible refine gate_callee (f := 35) rfl ?_); refine goesL_ (some 21) rfl rfl Try.func35 (by kernel_rfl) rfl #[.int .i64 1] rfl (by (try simp only [List.map_toArray, List.map_cons, List.map_nil]); first | done | rfl | (simp only [List.length_drop, List.length_take]; rfl)) ?_; (with_reducible refine (spec_WideInt.calls kj3 1 t392 t393 _ A19.out).mono ?_); rintro e w21 ⟨v394, rfl, ho0, hb⟩; refine ⟨_, rfl, ?_⟩; have n0_ := a0_ (Kd.V_lower (v4_ (ok' := fun k_ => k_ ≠ gb384 ∧ k_ ≠ gb385) ho0 (fun k_ hk_ => ⟨(Kd.freshB (g := gb384) (o := .cells #[.bool a1_0, .slice A1_1 l1_1.length c1_1] 29 (0, 0)) (by (with_reducible repeat (first | refine k1_ ?_ _ | refine k2_ ?_ | refine k3_ ?_ _)); exact BK384.out) k_ hk_), (Kd.freshB (g := gb385) (o := .cells #[.bool a2_0, .slice A2_1 l2_1.length c2_1] 29 (0, 0)) (by (with_reducible repeat (first | refine k1_ ?_ _ | refine k2_ ?_ | refine k3_ ?_ _)); exact BK385.out) k_ hk_)⟩)) (below_size (by repeat (first | (with_reducible first | exact HB.out | apply b1_ | apply b2_ | apply b3_ | refine b4_ ?_ GE384.out | refine b4_ ?_ GE385.out) | exact HB.out)))); have n1_ := a0_ (blk_below (g := gb384) (o := .cells #[.bool a1_0, .slice A1_1 l1_1.length c1_1] 29 (0, 0)) (by (with_reducible repeat (first | refine k1_ ?_ _ | refine k2_ ?_ | refine k3_ ?_ _)); exact BK384.out) hb); have n2_ := a0_ (blk_below (g := gb385) (o := .cells #[.bool a2_0, .slice A2_1 l2_1.length c2_1] 29 (0, 0)) (by (with_reducible repeat (first | refine k1_ ?_ _ | refine k2_ ?_ | refine k3_ ?_ _)); exact BK385.out) hb); have n3_ := a0_ (below_step (by repeat (first | (with_reducible first | exact HB.out | apply b1_ | apply b2_ | apply b3_ | refine b4_ ?_ GE384.out | refine b4_ ?_ GE385.out) | exact HB.out)) hb); clear BK384; clear BK385; clear HB; have HO395 := n0_; have BK384 := n1_; have BK385 := n2_; have HB := n3_; clear n0_ n1_ n2_ n3_; (try clear hb); (try clear hb2); (try clear hk); (try clear hi); (try clear ho0)) | ((with_reducible refine gate_dst (N := 8) rfl ?_); refine box_event ?hg (N := 8) ?hd (cs := #[.bool false, .slice none 0 0]) (t := 29) ?hr ?_; (case hd => rfl); (case hg => rfl); (case hr => first | (go_simp; done) | (go_simp; rfl)); intro gb396 hg w22 hbox hb; have n0_ := a0_ (Kd.V_below (Kd.V_elderB (by (with_reducible repeat (first | apply v1_ | apply v2_ | apply v3_)); exact HO395.out) gb396 (Nat.le_of_eq hg.symm)) hb); have n1_ := a0_ (blk_below (g := gb384) (o := .cells #[.bool a1_0, .slice A1_1 l1_1.length c1_1] 29 (0, 0)) (by (with_reducible repeat (first | refine k1_ ?_ _ | refine k2_ ?_ | refine k3_ ?_ _)); exact BK384.out) hb); have n2_ := a0_ (blk_below (g := gb385) (o := .cells #[.bool a2_0, .slice A2_1 l2_1.length c2_1] 29 (0, 0)) (by (with_reducible repeat (first | refine k1_ ?_ _ | refine k2_ ?_ | refine k3_ ?_ _)); exact BK385.out) hb); have n3_ := a0_ (below_step (by repeat (first | (with_reducible first | exact HB.out | apply b1_ | apply b2_ | apply b3_ | refine b4_ ?_ GE384.out | refine b4_ ?_ GE385.out) | exact HB.out)) hb); have n4_ := a0_ (hbox); have n5_ := a0_ ((by rw [hg]; exact (below_size (by repeat (first | (with_reducible first | exact HB.out | apply b1_ | apply b2_ | apply b3_ | refine b4_ ?_ GE384.out | refine b4_ ?_ GE385.out) | exact HB.out))) : w.heap.size ≤ gb396)); have n6_ := a0_ ((by rw [hg]; exact (below_size (by repeat (first | (with_reducible first | exact HB.out | apply b1_ | apply b2_ | apply b3_ | refine b4_ ?_ GE384.out | refine b4_ ?_ GE385.out) | exact HB.out))) : w.heap.size ≤ gb396)); have n7_ := a0_ ((by rw [hg]; exact Nat.ne_of_lt (blk_lt (g := gb384) (o := .cells #[.bool a1_0, .slice A1_1 l1_1.length c1_1] 29 (0, 0)) (by (with_reducible repeat (first | refine k1_ ?_ _ | refine k2_ ?_ | refine k3_ ?_ _)); exact BK384.out)) : gb384 ≠ gb396)); have n8_ := a0_ ((by rw [hg]; exact Nat.ne_of_gt (blk_lt (g := gb384) (o := .cells #[.bool a1_0, .slice A1_1 l1_1.length c1_1] 29 (0, 0)) (by (with_reducible repeat (first | refine k1_ ?_ _ | refine k2_ ?_ | refine k3_ ?_ _)); exact BK384.out)) : gb396 ≠ gb384)); have n9_ := a0_ ((by rw [hg]; exact Nat.ne_of_lt (blk_lt (g := gb385) (o := .cells #[.bool a2_0, .slice A2_1 l2_1.length c2_1] 29 (0, 0)) (by (with_reducible repeat (first | refine k1_ ?_ _ | refine k2_ ?_ | refine k3_ ?_ _)); exact BK385.out)) : gb385 ≠ gb396)); have n10_ := a0_ ((by rw [hg]; exact Nat.ne_of_gt (blk_lt (g := gb385) (o := .cells #[.bool a2_0, .slice A2_1 l2_1.length c2_1] 29 (0, 0)) (by (with_reducible repeat (first | refine k1_ ?_ _ | refine k2_ ?_ | refine k3_ ?_ _)); exact BK385.out)) : gb396 ≠ gb385)); clear HO395; clear BK384; clear BK385; clear HB; have HO395 := n0_; have BK384 := n1_; have BK385 := n2_; have HB := n3_; have BK396 := n4_; have GW396 := n5_; have GE396 := n6_; have NB384_396 := n7_; have NB396_384 := n8_; have NB385_396 := n9_; have NB396_385 := n10_; clear n0_ n1_ n2_ n3_ n4_ n5_ n6_ n7_ n8_ n9_ n10_; clear hb hbox hg; have hnb23 := NB396_384.out; have hnc23 := NB384_396.out; have hnb24 := NB396_385.out; have hnc24 := NB385_396.out; have hcz25_0 : w22.cell? ⟨gb396, 0, none⟩ = some (.bool false) := (blk_cell BK396.out 0).trans rfl; have hcz25_1 : w22.cell? ⟨gb396, 1, none⟩ = some (.slice none 0 0) := (blk_cell BK396.out 1).trans rfl; have hfz25_0 := blk_frozen BK396.out 0; have hfz25_1 := blk_frozen BK396.out 1; obtain ⟨Ao26, co26, eo26⟩ := Kd.V_slice HO395.out; subst eo26) | ((with_reducible refine gate_callee (f := 35) rfl ?_); refine goesL_ (some 22) rfl rfl Try.func35 (by kernel_rfl) rfl #[.int .i64 0] rfl (by (try simp only [List.map_toArray, List.map_cons, List.map_nil]); first | done | rfl | (simp only [List.length_drop, List.length_take]; rfl)) ?_; (with_reducible refine (spec_WideInt.calls kj3 0 t397 t398 _ A20.out).mono ?_); rintro e w27 ⟨v399, rfl, ho0, hb⟩; refine ⟨_, rfl, ?_⟩; have n0_ := a0_ (Kd.V_below (by (with_reducible repeat (first | apply v1_ | apply v2_ | apply v3_)); exact (v4_ (v5_ (p := ⟨gb396, 1, none⟩) (v5_ (p := ⟨gb396, 0, none⟩) (v4_ HO395.out (fun k_ hk => (⟨hk, hk.2⟩ : _ ∧ k_ ≠ gb396))) (fun _ hk => hk.2) (.bool t392)) (fun _ hk => hk.2) (.slice Ao26 t393.length co26)) (fun _ h_ => h_.1))) hb); have n1_ := a0_ (Kd.V_lower (v4_ (ok' := fun k_ => k_ ≠ gb384 ∧ k_ ≠ gb385 ∧ k_ ≠ gb396) ho0 (fun k_ hk_ => ⟨(Kd.freshB (g := gb384) (o := .cells #[.bool a1_0, .slice A1_1 l1_1.length c1_1] 29 (0, 0)) (by (with_reducible repeat (first | refine k1_ ?_ _ | refine k2_ ?_ | refine k3_ ?_ _)); refine blk_far ?_ NB384_396.out _; (with_reducible repeat (first | refine k1_ ?_ _ | refine k2_ ?_ | refine k3_ ?_ _)); refine blk_far ?_ NB384_396.out _; (with_reducible repeat (first | refine k1_ ?_ _ | refine k2_ ?_ | refine k3_ ?_ _)); exact BK384.out) k_ hk_), (Kd.freshB (g := gb385) (o := .cells #[.bool a2_0, .slice A2_1 l2_1.length c2_1] 29 (0, 0)) (by (with_reducible repeat (first | refine k1_ ?_ _ | refine k2_ ?_ | refine k3_ ?_ _)); refine blk_far ?_ NB385_396.out _; (with_reducible repeat (first | refine k1_ ?_ _ | refine k2_ ?_ | refine k3_ ?_ _)); refine blk_far ?_ NB385_396.out _; (with_reducible repeat (first | refine k1_ ?_ _ | refine k2_ ?_ | refine k3_ ?_ _)); exact BK385.out) k_ hk_), (Kd.freshB (g := gb396) (o := .cells #[.bool t392, .slice Ao26 t393.length co26] 29 (0, 0)) (by (with_reducible repeat (first | refine k1_ ?_ _ | refine k2_ ?_ | refine k3_ ?_ _)); refine blk_put (cs := #[.bool t392, .slice none 0 0]) ?_ 1 _ rfl; (with_reducible repeat (first | refine k1_ ?_ _ | refine k2_ ?_ | refine k3_ ?_ _)); refine blk_put (cs := #[.bool false, .slice none 0 0]) ?_ 0 _ rfl; (with_reducible repeat (first | refine k1_ ?_ _ | refine k2_ ?_ | refine k3_ ?_ _)); exact BK396.out) k_ hk_)⟩)) (below_size (by repeat (first | (with_reducible first | exact HB.out | apply b1_ | apply b2_ | apply b3_ | refine b4_ ?_ GE384.out | refine b4_ ?_ GE385.out | refine b4_ ?_ GE396.out) | exact HB.out)))); have n2_ := a0_ (blk_below (g := gb384) (o := .cells #[.bool a1_0, .slice A1_1 l1_1.length c1_1] 29 (0, 0)) (by (with_reducible repeat (first | refine k1_ ?_ _ | refine k2_ ?_ | refine k3_ ?_ _)); refine blk_far ?_ NB384_396.out _; (with_reducible repeat (first | refine k1_ ?_ _ | refine k2_ ?_ | refine k3_ ?_ _)); refine blk_far ?_ NB384_396.out _; (with_reducible repeat (first | refine k1_ ?_ _ | refine k2_ ?_ | refine k3_ ?_ _)); exact BK384.out) hb); have n3_ := a0_ (blk_below (g := gb385) (o := .cells #[.bool a2_0, .slice A2_1 l2_1.length c2_1] 29 (0, 0)) (by (with_reducible repeat (first | refine k1_ ?_ _ | refine k2_ ?_ | refine k3_ ?_ _)); refine blk_far ?_ NB385_396.out _; (with_reducible repeat (first | refine k1_ ?_ _ | refine k2_ ?_ | refine k3_ ?_ _)); refine blk_far ?_ NB385_396.out _; (with_reducible repeat (first | refine k1_ ?_ _ | refine k2_ ?_ | refine k3_ ?_ _)); exact BK385.out) hb); have n4_ := a0_ (blk_below (g := gb396) (o := .cells #[.bool t392, .slice Ao26 t393.length co26] 29 (0, 0)) (by (with_reducible repeat (first | refine k1_ ?_ _ | refine k2_ ?_ | refine k3_ ?_ _)); refine blk_put (cs := #[.bool t392, .slice none 0 0]) ?_ 1 _ rfl; (with_reducible repeat (first | refine k1_ ?_ _ | refine k2_ ?_ | refine k3_ ?_ _)); refine blk_put (cs := #[.bool false, .slice none 0 0]) ?_ 0 _ rfl; (with_reducible repeat (first | refine k1_ ?_ _ | refine k2_ ?_ | refine k3_ ?_ _)); exact BK396.out) hb); have n5_ := a0_ (below_step (by repeat (first | (with_reducible first | exact HB.out | apply b1_ | apply b2_ | apply b3_ | refine b4_ ?_ GE384.out | refine b4_ ?_ GE385.out | refine b4_ ?_ GE396.out) | exact HB.out)) hb); clear HO395; clear BK384; clear BK385; clear BK396; clear HB; have HO395 := n0_; have HO400 := n1_; have BK384 := n2_; have BK385 := n3_; have BK396 := n4_; have HB := n5_; clear n0_ n1_ n2_ n3_ n4_ n5_; (try clear hb); (try clear hb2); (try clear hk); (try clear hi); (try clear ho0)) | ((with_reducible refine gate_dst (N := 9) rfl ?_); refine box_event ?hg (N := 9) ?hd (cs := #[.bool false, .slice none 0 0]) (t := 29) ?hr ?_; (case hd => rfl); (case hg => rfl); (case hr => first | (go_simp; done) | (go_simp; rfl)); intro gb401 hg w28 hbox hb; have n0_ := a0_ (Kd.V_below (Kd.V_elderB (by (with_reducible repeat (first | apply v1_ | apply v2_ | apply v3_)); exact HO395.out) gb401 (Nat.le_of_eq hg.symm)) hb); have n1_ := a0_ (Kd.V_below (Kd.V_elderB (by (with_reducible repeat (first | apply v1_ | apply v2_ | apply v3_)); exact HO400.out) gb401 (Nat.le_of_eq hg.symm)) hb); have n2_ := a0_ (blk_below (g := gb384) (o := .cells #[.bool a1_0, .slice A1_1 l1_1.length c1_1] 29 (0, 0)) (by (with_reducible repeat (first | refine k1_ ?_ _ | refine k2_ ?_ | refine k3_ ?_ _)); exact BK384.out) hb); have n3_ := a0_ (blk_below (g := gb385) (o := .cells #[.bool a2_0, .slice A2_1 l2_1.length c2_1] 29 (0, 0)) (by (with_reducible repeat (first | refine k1_ ?_ _ | refine k2_ ?_ | refine k3_ ?_ _)); exact BK385.out) hb); have n4_ := a0_ (blk_below (g := gb396) (o := .cells #[.bool t392, .slice Ao26 t393.length co26] 29 (0, 0)) (by (with_reducible repeat (first | refine k1_ ?_ _ | refine k2_ ?_ | refine k3_ ?_ _)); exact BK396.out) hb); have n5_ := a0_ (below_step (by repeat (first | (with_reducible first | exact HB.out | apply b1_ | apply b2_ | apply b3_ | refine b4_ ?_ GE384.out | refine b4_ ?_ GE385.out | refine b4_ ?_ GE396.out) | exact HB.out)) hb); have n6_ := a0_ (hbox); have n7_ := a0_ ((by rw [hg]; exact (below_size (by repeat (first | (with_reducible first | exact HB.out | apply b1_ | apply b2_ | apply b3_ | refine b4_ ?_ GE384.out | refine b4_ ?_ GE385.out | refine b4_ ?_ GE396.out) | exact HB.out))) : w.heap.size ≤ gb401)); have n8_ := a0_ ((by rw [hg]; exact (below_size (by repeat (first | (with_reducible first | exact HB.out | apply b1_ | apply b2_ | apply b3_ | refine b4_ ?_ GE384.out | refine b4_ ?_ GE385.out | refine b4_ ?_ GE396.out) | exact HB.out))) : w.heap.size ≤ gb401)); have n9_ := a0_ ((by rw [hg]; exact Nat.ne_of_lt (blk_lt (g := gb384) (o := .cells #[.bool a1_0, .slice A1_1 l1_1.length c1_1] 29 (0, 0)) (by (with_reducible repeat (first | refine k1_ ?_ _ | refine k2_ ?_ | refine k3_ ?_ _)); exact BK384.out)) : gb384 ≠ gb401)); have n10_ := a0_ ((by rw [hg]; exact Nat.ne_of_gt (blk_lt (g := gb384) (o := .cells #[.bool a1_0, .slice A1_1 l1_1.length c1_1] 29 (0, 0)) (by (with_reducible repeat (first | refine k1_ ?_ _ | refine k2_ ?_ | refine k3_ ?_ _)); exact BK384.out)) : gb401 ≠ gb384)); have n11_ := a0_ ((by rw [hg]; exact Nat.ne_of_lt (blk_lt (g := gb385) (o := .cells #[.bool a2_0, .slice A2_1 l2_1.length c2_1] 29 (0, 0)) (by (with_reducible repeat (first | refine k1_ ?_ _ | refine k2_ ?_ | refine k3_ ?_ _)); exact BK385.out)) : gb385 ≠ gb401)); have n12_ := a0_ ((by rw [hg]; exact Nat.ne_of_gt (blk_lt (g := gb385) (o := .cells #[.bool a2_0, .slice A2_1 l2_1.length c2_1] 29 (0, 0)) (by (with_reducible repeat (first | refine k1_ ?_ _ | refine k2_ ?_ | refine k3_ ?_ _)); exact BK385.out)) : gb401 ≠ gb385)); have n13_ := a0_ ((by rw [hg]; exact Nat.ne_of_lt (blk_lt (g := gb396) (o := .cells #[.bool t392, .slice Ao26 t393.length co26] 29 (0, 0)) (by (with_reducible repeat (first | refine k1_ ?_ _ | refine k2_ ?_ | refine k3_ ?_ _)); exact BK396.out)) : gb396 ≠ gb401)); have n14_ := a0_ ((by rw [hg]; exact Nat.ne_of_gt (blk_lt (g := gb396) (o := .cells #[.bool t392, .slice Ao26 t393.length co26] 29 (0, 0)) (by (with_reducible repeat (first | refine k1_ ?_ _ | refine k2_ ?_ | refine k3_ ?_ _)); exact BK396.out)) : gb401 ≠ gb396)); clear HO395; clear HO400; clear BK384; clear BK385; clear BK396; clear HB; have HO395 := n0_; have HO400 := n1_; have BK384 := n2_; have BK385 := n3_; have BK396 := n4_; have HB := n5_; have BK401 := n6_; have GW401 := n7_; have GE401 := n8_; have NB384_401 := n9_; have NB401_384 := n10_; have NB385_401 := n11_; have NB401_385 := n12_; have NB396_401 := n13_; have NB401_396 := n14_; clear n0_ n1_ n2_ n3_ n4_ n5_ n6_ n7_ n8_ n9_ n10_ n11_ n12_ n13_ n14_; clear hb hbox hg; have hnb29 := NB401_384.out; have hnc29 := NB384_401.out; have hnb30 := NB401_385.out; have hnc30 := NB385_401.out; have hnb31 := NB401_396.out; have hnc31 := NB396_401.out; have hcz32_0 : w28.cell? ⟨gb401, 0, none⟩ = some (.bool false) := (blk_cell BK401.out 0).trans rfl; have hcz32_1 : w28.cell? ⟨gb401, 1, none⟩ = some (.slice none 0 0) := (blk_cell BK401.out 1).trans rfl; have hfz32_0 := blk_frozen BK401.out 0; have hfz32_1 := blk_frozen BK401.out 1; obtain ⟨Ao33, co33, eo33⟩ := Kd.V_slice HO400.out; subst eo33))
    go_loopg [9] kj3 (fun kq v9 w' => ∃ (gb401 : Nat) (t397 : Bool) (t398 : List Int) (Ao33 : Option Addr) (co33 : Nat) (x397000_2 : Bool) (x397001_2 : List Int) (u397001 : Value), v9 = .pointer (some ⟨gb401, 0, none⟩) ∧ Aside0 (gb384 ≠ gb401) ∧ Aside0 (gb401 ≠ gb384) ∧ Aside0 (gb385 ≠ gb401) ∧ Aside0 (gb401 ≠ gb385) ∧ Aside0 (gb396 ≠ gb401) ∧ Aside0 (gb401 ≠ gb396) ∧ Aside0 (w.heap.size ≤ gb401) ∧ Aside0 (laws_power.l0 kq a0 a1_0 l1_1 a2_0 l2_1 x397000_2 x397001_2 t397 t398 = some (r1, r2)) ∧ Aside0 (kq ≤ kj3) ∧ Aside0 (Kd.V (Kd.int .u32) 96 w' w.heap.size (fun k_ => k_ ≠ gb384 ∧ k_ ≠ gb385 ∧ k_ ≠ gb396 ∧ k_ ≠ gb401) u397001 x397001_2) ∧ Aside0 (Kd.V (Kd.int .u32) 96 w' w.heap.size (fun k_ => k_ ≠ gb384 ∧ k_ ≠ gb385 ∧ k_ ≠ gb396 ∧ k_ ≠ gb401) (.slice Ao33 t398.length co33) t398) ∧ Aside0 (w'.heap[gb384]? = some (.cells #[.bool a1_0, (.slice A1_1 l1_1.length c1_1)] 29 (0, 0))) ∧ Aside0 (w'.heap[gb385]? = some (.cells #[.bool a2_0, (.slice A2_1 l2_1.length c2_1)] 29 (0, 0))) ∧ Aside0 (w'.heap[gb396]? = some (.cells #[.bool x397000_2, u397001] 29 (0, 0))) ∧ Aside0 (w'.heap[gb401]? = some (.cells #[.bool t397, (.slice Ao33 t398.length co33)] 29 (0, 0))) ∧ Aside0 (Below w.heap.size w w'))
    case atStart => exact ⟨gb401, t397, t398, Ao33, co33, (t392), (t393), (.slice Ao26 t393.length co26), (by first | rfl | (simp; done) | (simp [*]; done)), NB384_401, NB401_384, NB385_401, NB401_385, NB396_401, NB401_396, GE401, H', ⟨Nat.le_refl _⟩, ⟨by (with_reducible repeat (first | apply v1_ | apply v2_ | apply v3_)); exact v4_ (v5_ (p := ⟨gb401, 1, none⟩) (v5_ (p := ⟨gb401, 0, none⟩) (v4_ HO395.out (fun k_ hk => (⟨hk, hk.2⟩ : _ ∧ k_ ≠ gb401))) (fun _ hk => hk.2) (.bool t397)) (fun _ hk => hk.2) (.slice Ao33 t398.length co33)) (fun _ hk => ⟨hk.1.1.1.1, ⟨hk.1.1.1.2, ⟨hk.1.1.2, hk.1.2⟩⟩⟩)⟩, ⟨by (with_reducible repeat (first | apply v1_ | apply v2_ | apply v3_)); exact v4_ (v5_ (p := ⟨gb401, 1, none⟩) (v5_ (p := ⟨gb401, 0, none⟩) (v4_ HO400.out (fun k_ hk => (⟨hk, hk.2⟩ : _ ∧ k_ ≠ gb401))) (fun _ hk => hk.2) (.bool t397)) (fun _ hk => hk.2) (.slice Ao33 t398.length co33)) (fun _ hk => ⟨hk.1.1.1, ⟨hk.1.1.2.1, ⟨hk.1.1.2.2, hk.1.2⟩⟩⟩)⟩, ⟨by (with_reducible repeat (first | refine k1_ ?_ _ | refine k2_ ?_ | refine k3_ ?_ _)); refine blk_far ?_ NB384_401.out _; (with_reducible repeat (first | refine k1_ ?_ _ | refine k2_ ?_ | refine k3_ ?_ _)); refine blk_far ?_ NB384_401.out _; (with_reducible repeat (first | refine k1_ ?_ _ | refine k2_ ?_ | refine k3_ ?_ _)); exact BK384.out⟩, ⟨by (with_reducible repeat (first | refine k1_ ?_ _ | refine k2_ ?_ | refine k3_ ?_ _)); refine blk_far ?_ NB385_401.out _; (with_reducible repeat (first | refine k1_ ?_ _ | refine k2_ ?_ | refine k3_ ?_ _)); refine blk_far ?_ NB385_401.out _; (with_reducible repeat (first | refine k1_ ?_ _ | refine k2_ ?_ | refine k3_ ?_ _)); exact BK385.out⟩, ⟨by (with_reducible repeat (first | refine k1_ ?_ _ | refine k2_ ?_ | refine k3_ ?_ _)); refine blk_far ?_ NB396_401.out _; (with_reducible repeat (first | refine k1_ ?_ _ | refine k2_ ?_ | refine k3_ ?_ _)); refine blk_far ?_ NB396_401.out _; (with_reducible repeat (first | refine k1_ ?_ _ | refine k2_ ?_ | refine k3_ ?_ _)); exact BK396.out⟩, ⟨by (with_reducible repeat (first | refine k1_ ?_ _ | refine k2_ ?_ | refine k3_ ?_ _)); refine blk_put (cs := #[.bool t397, .slice none 0 0]) ?_ 1 _ rfl; (with_reducible repeat (first | refine k1_ ?_ _ | refine k2_ ?_ | refine k3_ ?_ _)); refine blk_put (cs := #[.bool false, .slice none 0 0]) ?_ 0 _ rfl; (with_reducible repeat (first | refine k1_ ?_ _ | refine k2_ ?_ | refine k3_ ?_ _)); exact BK401.out⟩, ⟨by repeat (first | (with_reducible first | exact HB.out | apply b1_ | apply b2_ | apply b3_ | refine b4_ ?_ GE384.out | refine b4_ ?_ GE385.out | refine b4_ ?_ GE396.out | refine b4_ ?_ GE401.out) | exact HB.out)⟩⟩
    case round =>
     clear H'
     try clear c1
     try clear c2
     try clear p2
     try clear c3
     try clear c8
     try clear c8b0
     try clear c10
     try clear c14
     try clear c18
     try clear c21
     try clear c23
     try clear c24
     try clear c29
     try clear c30
     try clear c31
     try clear hcz25_0
     try clear hcz25_1
     try clear hcz32_0
     try clear hcz32_1
     try clear hfz25_0
     try clear hfz25_1
     try clear hfz32_0
     try clear hfz32_1
     try clear p2
     obtain ⟨gb401, t397, t398, Ao33, co33, x397000_2, x397001_2, u397001, rfl, NB384_401, NB401_384, NB385_401, NB401_385, NB396_401, NB401_396, GE401, HA, HK2, HO_397001, HO_402001, BK384, BK385, BK396, BK401, HB⟩ := hrel
     cases gk with
     | zero => exact absurd HA.out (by simp [laws_power.l0])
     | succ k2 =>
      have H := HA.out
      clear HA
      simp only [laws_power.l0] at H
      replace H := Option.bind_eq_some_iff.mp H
      obtain ⟨t402, A340, H⟩ := H
      replace H : (if t402 < 0 then ((spec_WideMul.f k2 x397000_2 x397001_2 a1_0 l1_1).bind fun bt407 => ((laws_wrapped.f k2 a0 bt407.1 bt407.2).bind fun bt411 => (if bt411.2 = true then ((laws_least.f k2 a0 bt407.1 bt407.2).bind fun t415 => (laws_power.j2 k2 a0 t415 a1_0 l1_1 a2_0 l2_1 bt407.1 bt407.2 t397 t398)) else (laws_power.j2 k2 a0 true a1_0 l1_1 a2_0 l2_1 bt407.1 bt407.2 t397 t398)))) else ((laws_wrapped.f k2 a0 x397000_2 x397001_2).bind fun bt403 => (some (bt403.1, bt403.2)))) = some (r1, r2) := H
      have A34 := a0_ A340
      clear A340
      by_cases c35 : t402 < 0
      ·
       rw [if_pos c35] at H
       have c35b0 : decide (t402 < 0) = true := d2_ c35
       clear c35
       replace H := Option.bind_eq_some_iff.mp H
       obtain ⟨⟨t407, t408⟩, A360, H⟩ := H
       replace H : ((laws_wrapped.f k2 a0 t407 t408).bind fun bt411 => (if bt411.2 = true then ((laws_least.f k2 a0 t407 t408).bind fun t415 => (laws_power.j2 k2 a0 t415 a1_0 l1_1 a2_0 l2_1 t407 t408 t397 t398)) else (laws_power.j2 k2 a0 true a1_0 l1_1 a2_0 l2_1 t407 t408 t397 t398))) = some (r1, r2) := H
       have A36 := a0_ A360
       clear A360
       replace H := Option.bind_eq_some_iff.mp H
       obtain ⟨⟨t411, t414⟩, A370, H⟩ := H
       replace H : (if t414 = true then ((laws_least.f k2 a0 t407 t408).bind fun t415 => (laws_power.j2 k2 a0 t415 a1_0 l1_1 a2_0 l2_1 t407 t408 t397 t398)) else (laws_power.j2 k2 a0 true a1_0 l1_1 a2_0 l2_1 t407 t408 t397 t398)) = some (r1, r2) := H
       have A37 := a0_ A370
       clear A370
       have HC38 := a0_ H
       clear H
       have hnb39 := NB401_384.out
       have hnc39 := NB384_401.out
       have hnb40 := NB401_385.out
       have hnc40 := NB385_401.out
       have hnb41 := NB401_396.out
       have hnc41 := NB396_401.out
       have hcz42_0 : wr.cell? ⟨gb401, 0, none⟩ = some (.bool t397) := (blk_cell BK401.out 0).trans rfl
       have hcz42_1 : wr.cell? ⟨gb401, 1, none⟩ = some (.slice Ao33 t398.length co33) := (blk_cell BK401.out 1).trans rfl
       have hfz42_0 := blk_frozen BK401.out 0
       have hfz42_1 := blk_frozen BK401.out 1
       have hnb43 := NB385_384.out
       have hnc43 := NB384_385.out
       have hnb44 := NB385_396.out
       have hnc44 := NB396_385.out
       have hcz45_0 : wr.cell? ⟨gb385, 0, none⟩ = some (.bool a2_0) := (blk_cell BK385.out 0).trans rfl
       have hcz45_1 : wr.cell? ⟨gb385, 1, none⟩ = some (.slice A2_1 l2_1.length c2_1) := (blk_cell BK385.out 1).trans rfl
       have hfz45_0 := blk_frozen BK385.out 0
       have hfz45_1 := blk_frozen BK385.out 1
       go_upto_region 9 with (first | ((with_reducible refine gate_callee (f := 21) rfl ?_); refine goesL_ (some 25) rfl rfl Try.func21 (by kernel_rfl) rfl #[.agg #[.bool t397, .slice Ao33 t398.length co33], .agg #[.bool a2_0, .slice A2_1 l2_1.length c2_1]] rfl (by (try simp only [List.map_toArray, List.map_cons, List.map_nil]); first | done | rfl | (simp only [List.length_drop, List.length_take]; rfl)) ?_; (with_reducible refine (spec_WideCmp.calls k2 t397 _ _ t398 a2_0 _ _ l2_1 t402 _ ?side1 ?side2 ?side3 ?side4 A34.out).mono ?_); (case side1 => repeat (first | exact (Kd.V_reads' HO_402001.out).2.2 | (with_reducible refine Kd.C_alloc ?_ _) | (with_reducible refine Kd.C_drewN ?_ _) | (with_reducible refine Kd.C_drew ?_))); (case side2 => exact (Kd.V_reads' HO_402001.out).2.1); (case side3 => repeat (first | exact (Kd.C_below HR2_1.out HB.out) | (with_reducible refine Kd.C_alloc ?_ _) | (with_reducible refine Kd.C_drewN ?_ _) | (with_reducible refine Kd.C_drew ?_))); (case side4 => exact HC2_1.out); rintro e w46 ⟨rfl, hb⟩; refine ⟨_, rfl, ?_⟩; have n0_ := a0_ (Kd.V_below (by (with_reducible repeat (first | apply v1_ | apply v2_ | apply v3_)); exact HO_397001.out) hb); have n1_ := a0_ (Kd.V_below (by (with_reducible repeat (first | apply v1_ | apply v2_ | apply v3_)); exact HO_402001.out) hb); have n2_ := a0_ (blk_below (g := gb384) (o := .cells #[.bool a1_0, .slice A1_1 l1_1.length c1_1] 29 (0, 0)) (by (with_reducible repeat (first | refine k1_ ?_ _ | refine k2_ ?_ | refine k3_ ?_ _)); exact BK384.out) hb); have n3_ := a0_ (blk_below (g := gb385) (o := .cells #[.bool a2_0, .slice A2_1 l2_1.length c2_1] 29 (0, 0)) (by (with_reducible repeat (first | refine k1_ ?_ _ | refine k2_ ?_ | refine k3_ ?_ _)); exact BK385.out) hb); have n4_ := a0_ (blk_below (g := gb396) (o := .cells #[.bool x397000_2, u397001] 29 (0, 0)) (by (with_reducible repeat (first | refine k1_ ?_ _ | refine k2_ ?_ | refine k3_ ?_ _)); exact BK396.out) hb); have n5_ := a0_ (blk_below (g := gb401) (o := .cells #[.bool t397, .slice Ao33 t398.length co33] 29 (0, 0)) (by (with_reducible repeat (first | refine k1_ ?_ _ | refine k2_ ?_ | refine k3_ ?_ _)); exact BK401.out) hb); have n6_ := a0_ (below_step (by repeat (first | (with_reducible first | exact HB.out | apply b1_ | apply b2_ | apply b3_ | refine b4_ ?_ GE384.out | refine b4_ ?_ GE385.out | refine b4_ ?_ GE396.out | refine b4_ ?_ GE401.out) | exact HB.out)) hb); clear HO_397001; clear HO_402001; clear BK384; clear BK385; clear BK396; clear BK401; clear HB; have HO_397001 := n0_; have HO_402001 := n1_; have BK384 := n2_; have BK385 := n3_; have BK396 := n4_; have BK401 := n5_; have HB := n6_; clear n0_ n1_ n2_ n3_ n4_ n5_ n6_; (try clear hb); (try clear hb2); (try clear hk); (try clear hi); have hnb47 := NB396_384.out; have hnc47 := NB384_396.out; have hcz48_0 : w46.cell? ⟨gb396, 0, none⟩ = some (.bool x397000_2) := (blk_cell BK396.out 0).trans rfl; have hcz48_1 : w46.cell? ⟨gb396, 1, none⟩ = some (u397001) := (blk_cell BK396.out 1).trans rfl; have hfz48_0 := blk_frozen BK396.out 0; have hfz48_1 := blk_frozen BK396.out 1; have hcz49_0 : w46.cell? ⟨gb384, 0, none⟩ = some (.bool a1_0) := (blk_cell BK384.out 0).trans rfl; have hcz49_1 : w46.cell? ⟨gb384, 1, none⟩ = some (.slice A1_1 l1_1.length c1_1) := (blk_cell BK384.out 1).trans rfl; have hfz49_0 := blk_frozen BK384.out 0; have hfz49_1 := blk_frozen BK384.out 1; obtain ⟨Ao50, co50, eo50⟩ := Kd.V_slice HO_397001.out; subst eo50) | ((with_reducible refine gate_callee (f := 36) rfl ?_); refine goesL_ (some 32) rfl rfl Try.func36 (by kernel_rfl) rfl #[.agg #[.bool x397000_2, .slice Ao50 x397001_2.length co50], .agg #[.bool a1_0, .slice A1_1 l1_1.length c1_1]] rfl (by (try simp only [List.map_toArray, List.map_cons, List.map_nil]); first | done | rfl | (simp only [List.length_drop, List.length_take]; rfl)) ?_; (with_reducible refine (spec_WideMul.calls k2 x397000_2 _ _ x397001_2 a1_0 _ _ l1_1 t407 t408 _ ?side1 ?side2 ?side3 ?side4 A36.out).mono ?_); (case side1 => repeat (first | exact (Kd.V_reads' HO_397001.out).2.2 | (with_reducible refine Kd.C_alloc ?_ _) | (with_reducible refine Kd.C_drewN ?_ _) | (with_reducible refine Kd.C_drew ?_))); (case side2 => exact (Kd.V_reads' HO_397001.out).2.1); (case side3 => repeat (first | exact (Kd.C_below HR1_1.out HB.out) | (with_reducible refine Kd.C_alloc ?_ _) | (with_reducible refine Kd.C_drewN ?_ _) | (with_reducible refine Kd.C_drew ?_))); (case side4 => exact HC1_1.out); rintro e w51 ⟨v409, rfl, ho0, hb⟩; refine ⟨_, rfl, ?_⟩; have n0_ := a0_ (Kd.V_below (by (with_reducible repeat (first | apply v1_ | apply v2_ | apply v3_)); exact HO_397001.out) hb); have n1_ := a0_ (Kd.V_below (by (with_reducible repeat (first | apply v1_ | apply v2_ | apply v3_)); exact HO_402001.out) hb); have n2_ := a0_ (Kd.V_lower (v4_ (ok' := fun k_ => k_ ≠ gb384 ∧ k_ ≠ gb385 ∧ k_ ≠ gb396 ∧ k_ ≠ gb401) ho0 (fun k_ hk_ => ⟨(Kd.freshB (g := gb384) (o := .cells #[.bool a1_0, .slice A1_1 l1_1.length c1_1] 29 (0, 0)) (by (with_reducible repeat (first | refine k1_ ?_ _ | refine k2_ ?_ | refine k3_ ?_ _)); exact BK384.out) k_ hk_), (Kd.freshB (g := gb385) (o := .cells #[.bool a2_0, .slice A2_1 l2_1.length c2_1] 29 (0, 0)) (by (with_reducible repeat (first | refine k1_ ?_ _ | refine k2_ ?_ | refine k3_ ?_ _)); exact BK385.out) k_ hk_), (Kd.freshB (g := gb396) (o := .cells #[.bool x397000_2, .slice Ao50 x397001_2.length co50] 29 (0, 0)) (by (with_reducible repeat (first | refine k1_ ?_ _ | refine k2_ ?_ | refine k3_ ?_ _)); exact BK396.out) k_ hk_), (Kd.freshB (g := gb401) (o := .cells #[.bool t397, .slice Ao33 t398.length co33] 29 (0, 0)) (by (with_reducible repeat (first | refine k1_ ?_ _ | refine k2_ ?_ | refine k3_ ?_ _)); exact BK401.out) k_ hk_)⟩)) (below_size (by repeat (first | (with_reducible first | exact HB.out | apply b1_ | apply b2_ | apply b3_ | refine b4_ ?_ GE384.out | refine b4_ ?_ GE385.out | refine b4_ ?_ GE396.out | refine b4_ ?_ GE401.out) | exact HB.out)))); have n3_ := a0_ (blk_below (g := gb384) (o := .cells #[.bool a1_0, .slice A1_1 l1_1.length c1_1] 29 (0, 0)) (by (with_reducible repeat (first | refine k1_ ?_ _ | refine k2_ ?_ | refine k3_ ?_ _)); exact BK384.out) hb); have n4_ := a0_ (blk_below (g := gb385) (o := .cells #[.bool a2_0, .slice A2_1 l2_1.length c2_1] 29 (0, 0)) (by (with_reducible repeat (first | refine k1_ ?_ _ | refine k2_ ?_ | refine k3_ ?_ _)); exact BK385.out) hb); have n5_ := a0_ (blk_below (g := gb396) (o := .cells #[.bool x397000_2, .slice Ao50 x397001_2.length co50] 29 (0, 0)) (by (with_reducible repeat (first | refine k1_ ?_ _ | refine k2_ ?_ | refine k3_ ?_ _)); exact BK396.out) hb); have n6_ := a0_ (blk_below (g := gb401) (o := .cells #[.bool t397, .slice Ao33 t398.length co33] 29 (0, 0)) (by (with_reducible repeat (first | refine k1_ ?_ _ | refine k2_ ?_ | refine k3_ ?_ _)); exact BK401.out) hb); have n7_ := a0_ (below_step (by repeat (first | (with_reducible first | exact HB.out | apply b1_ | apply b2_ | apply b3_ | refine b4_ ?_ GE384.out | refine b4_ ?_ GE385.out | refine b4_ ?_ GE396.out | refine b4_ ?_ GE401.out) | exact HB.out)) hb); clear HO_397001; clear HO_402001; clear BK384; clear BK385; clear BK396; clear BK401; clear HB; have HO_397001 := n0_; have HO_402001 := n1_; have HO410 := n2_; have BK384 := n3_; have BK385 := n4_; have BK396 := n5_; have BK401 := n6_; have HB := n7_; clear n0_ n1_ n2_ n3_ n4_ n5_ n6_ n7_; (try clear hb); (try clear hb2); (try clear hk); (try clear hi); (try clear ho0); have hcz52_0 : w51.cell? ⟨gb396, 0, none⟩ = some (.bool x397000_2) := (blk_cell BK396.out 0).trans rfl; have hcz52_1 : w51.cell? ⟨gb396, 1, none⟩ = some (.slice Ao50 x397001_2.length co50) := (blk_cell BK396.out 1).trans rfl; have hfz52_0 := blk_frozen BK396.out 0; have hfz52_1 := blk_frozen BK396.out 1; obtain ⟨Ao53, co53, eo53⟩ := Kd.V_slice HO410.out; subst eo53) | ((with_reducible refine gate_callee (f := 12) rfl ?_); refine goesL_ (some 36) rfl rfl Try.func12 (by kernel_rfl) rfl #[.int .i64 a0, .agg #[.bool t407, .slice Ao53 t408.length co53]] rfl (by (try simp only [List.map_toArray, List.map_cons, List.map_nil]); first | done | rfl | (simp only [List.length_drop, List.length_take]; rfl)) ?_; (with_reducible refine (laws_wrapped.calls k2 a0 t407 _ _ t408 t411 t414 _ ?side1 ?side2 A37.out).mono ?_); (case side1 => refine (Kd.V_reads' (e := 96) (base := w.heap.size) (ok := fun k_ => (k_ ≠ gb384 ∧ (k_ ≠ gb385 ∧ (k_ ≠ gb396 ∧ k_ ≠ gb401)))) (n := t408.length) (c := co53) ?_).2.2; exact (by (with_reducible repeat (first | apply v1_ | apply v2_ | apply v3_)); exact (v4_ (v5_ (p := ⟨gb396, 1, none⟩) (v5_ (p := ⟨gb396, 0, none⟩) (v4_ HO410.out (fun k_ hk => (⟨hk, hk.2.2.1⟩ : _ ∧ k_ ≠ gb396))) (fun _ hk => hk.2) (.bool t407)) (fun _ hk => hk.2) (.slice Ao53 t408.length co53)) (fun _ h_ => h_.1)))); (case side2 => exact (Kd.V_reads' HO410.out).2.1); rintro e w54 ⟨v412, rfl, ho0, hb⟩; refine ⟨_, rfl, ?_⟩; have n0_ := a0_ (Kd.V_elder' (by (with_reducible repeat (first | apply v1_ | apply v2_ | apply v3_)); exact (v4_ (v5_ (p := ⟨gb396, 1, none⟩) (v5_ (p := ⟨gb396, 0, none⟩) (v4_ HO_397001.out (fun k_ hk => (⟨hk, hk.2.2.1⟩ : _ ∧ k_ ≠ gb396))) (fun _ hk => hk.2) (.bool t407)) (fun _ hk => hk.2) (.slice Ao53 t408.length co53)) (fun _ h_ => h_.1))) (Kd.R_base ho0) hb); have n1_ := a0_ (Kd.V_elder' (by (with_reducible repeat (first | apply v1_ | apply v2_ | apply v3_)); exact (v4_ (v5_ (p := ⟨gb396, 1, none⟩) (v5_ (p := ⟨gb396, 0, none⟩) (v4_ HO_402001.out (fun k_ hk => (⟨hk, hk.2.2.1⟩ : _ ∧ k_ ≠ gb396))) (fun _ hk => hk.2) (.bool t407)) (fun _ hk => hk.2) (.slice Ao53 t408.length co53)) (fun _ h_ => h_.1))) (Kd.R_base ho0) hb); have n2_ := a0_ (Kd.V_elder' (by (with_reducible repeat (first | apply v1_ | apply v2_ | apply v3_)); exact (v4_ (v5_ (p := ⟨gb396, 1, none⟩) (v5_ (p := ⟨gb396, 0, none⟩) (v4_ HO410.out (fun k_ hk => (⟨hk, hk.2.2.1⟩ : _ ∧ k_ ≠ gb396))) (fun _ hk => hk.2) (.bool t407)) (fun _ hk => hk.2) (.slice Ao53 t408.length co53)) (fun _ h_ => h_.1))) (Kd.R_base ho0) hb); have n3_ := a0_ (Kd.R_lower ho0 (below_size (by repeat (first | (with_reducible first | exact HB.out | apply b1_ | apply b2_ | apply b3_ | refine b4_ ?_ GE384.out | refine b4_ ?_ GE385.out | refine b4_ ?_ GE396.out | refine b4_ ?_ GE401.out) | exact HB.out)))); have n4_ := a0_ (blk_below (g := gb384) (o := .cells #[.bool a1_0, .slice A1_1 l1_1.length c1_1] 29 (0, 0)) (by (with_reducible repeat (first | refine k1_ ?_ _ | refine k2_ ?_ | refine k3_ ?_ _)); refine blk_far ?_ NB384_396.out _; (with_reducible repeat (first | refine k1_ ?_ _ | refine k2_ ?_ | refine k3_ ?_ _)); refine blk_far ?_ NB384_396.out _; (with_reducible repeat (first | refine k1_ ?_ _ | refine k2_ ?_ | refine k3_ ?_ _)); exact BK384.out) hb); have n5_ := a0_ (blk_below (g := gb385) (o := .cells #[.bool a2_0, .slice A2_1 l2_1.length c2_1] 29 (0, 0)) (by (with_reducible repeat (first | refine k1_ ?_ _ | refine k2_ ?_ | refine k3_ ?_ _)); refine blk_far ?_ NB385_396.out _; (with_reducible repeat (first | refine k1_ ?_ _ | refine k2_ ?_ | refine k3_ ?_ _)); refine blk_far ?_ NB385_396.out _; (with_reducible repeat (first | refine k1_ ?_ _ | refine k2_ ?_ | refine k3_ ?_ _)); exact BK385.out) hb); have n6_ := a0_ (blk_below (g := gb396) (o := .cells #[.bool t407, .slice Ao53 t408.length co53] 29 (0, 0)) (by (with_reducible repeat (first | refine k1_ ?_ _ | refine k2_ ?_ | refine k3_ ?_ _)); refine blk_put (cs := #[.bool t407, .slice Ao50 x397001_2.length co50]) ?_ 1 _ rfl; (with_reducible repeat (first | refine k1_ ?_ _ | refine k2_ ?_ | refine k3_ ?_ _)); refine blk_put (cs := #[.bool x397000_2, .slice Ao50 x397001_2.length co50]) ?_ 0 _ rfl; (with_reducible repeat (first | refine k1_ ?_ _ | refine k2_ ?_ | refine k3_ ?_ _)); exact BK396.out) hb); have n7_ := a0_ (blk_below (g := gb401) (o := .cells #[.bool t397, .slice Ao33 t398.length co33] 29 (0, 0)) (by (with_reducible repeat (first | refine k1_ ?_ _ | refine k2_ ?_ | refine k3_ ?_ _)); refine blk_far ?_ NB401_396.out _; (with_reducible repeat (first | refine k1_ ?_ _ | refine k2_ ?_ | refine k3_ ?_ _)); refine blk_far ?_ NB401_396.out _; (with_reducible repeat (first | refine k1_ ?_ _ | refine k2_ ?_ | refine k3_ ?_ _)); exact BK401.out) hb); have n8_ := a0_ (below_step (by repeat (first | (with_reducible first | exact HB.out | apply b1_ | apply b2_ | apply b3_ | refine b4_ ?_ GE384.out | refine b4_ ?_ GE385.out | refine b4_ ?_ GE396.out | refine b4_ ?_ GE401.out) | exact HB.out)) hb); clear HO_397001; clear HO_402001; clear HO410; clear BK384; clear BK385; clear BK396; clear BK401; clear HB; have HO_397001 := n0_; have HO_402001 := n1_; have HO410 := n2_; have HO413 := n3_; have BK384 := n4_; have BK385 := n5_; have BK396 := n6_; have BK401 := n7_; have HB := n8_; clear n0_ n1_ n2_ n3_ n4_ n5_ n6_ n7_ n8_; (try clear hb); (try clear hb2); (try clear hk); (try clear hi); (try clear ho0)))
       (try simp only [Act.put, s1_, s2_, s3_])
       go_cut [45] (fun v45 wc => ∃ (kq : Nat) (x45_37 : Bool), v45 = .bool x45_37 ∧ Aside0 (laws_power.j2 kq a0 x45_37 a1_0 l1_1 a2_0 l2_1 t407 t408 t397 t398 = some (r1, r2)) ∧ Aside0 (kq ≤ k2) ∧ Aside0 (Kd.V (Kd.int .u32) 96 wc w.heap.size (fun k_ => k_ ≠ gb384 ∧ k_ ≠ gb385 ∧ k_ ≠ gb396 ∧ k_ ≠ gb401) (.slice Ao53 t408.length co53) t408) ∧ Aside0 (Kd.V (Kd.int .u32) 96 wc w.heap.size (fun k_ => k_ ≠ gb384 ∧ k_ ≠ gb385 ∧ k_ ≠ gb396 ∧ k_ ≠ gb401) (.slice Ao33 t398.length co33) t398) ∧ Aside0 (wc.heap[gb384]? = some (.cells #[.bool a1_0, (.slice A1_1 l1_1.length c1_1)] 29 (0, 0))) ∧ Aside0 (wc.heap[gb385]? = some (.cells #[.bool a2_0, (.slice A2_1 l2_1.length c2_1)] 29 (0, 0))) ∧ Aside0 (wc.heap[gb396]? = some (.cells #[.bool t407, (.slice Ao53 t408.length co53)] 29 (0, 0))) ∧ Aside0 (wc.heap[gb401]? = some (.cells #[.bool t397, (.slice Ao33 t398.length co33)] 29 (0, 0))) ∧ Aside0 (Below w.heap.size w wc))
       case first =>
        have H := HC38.out
        clear HC38
        by_cases c55 : t414 = true
        ·
         subst c55
         have H1 : ((laws_least.f k2 a0 t407 t408).bind fun t415 => (laws_power.j2 k2 a0 t415 a1_0 l1_1 a2_0 l2_1 t407 t408 t397 t398)) = some (r1, r2) := by rw [if_pos rfl] at H; exact H
         clear H
         have H := H1
         clear H1
         replace H := Option.bind_eq_some_iff.mp H
         obtain ⟨t415, A560, H⟩ := H
         replace H : (laws_power.j2 k2 a0 t415 a1_0 l1_1 a2_0 l2_1 t407 t408 t397 t398) = some (r1, r2) := H
         have A56 := a0_ A560
         clear A560
         have H' := a0_ H
         clear H
         have hnb57 := NB396_384.out
         have hnc57 := NB384_396.out
         have hnb58 := NB396_385.out
         have hnc58 := NB385_396.out
         have hnb59 := NB396_401.out
         have hnc59 := NB401_396.out
         have hcz60_0 : w54.cell? ⟨gb396, 0, none⟩ = some (.bool t407) := (blk_cell BK396.out 0).trans rfl
         have hcz60_1 : w54.cell? ⟨gb396, 1, none⟩ = some (.slice Ao53 t408.length co53) := (blk_cell BK396.out 1).trans rfl
         have hfz60_0 := blk_frozen BK396.out 0
         have hfz60_1 := blk_frozen BK396.out 1
         go_wp2_with (first | (go_at_call 37; (with_reducible refine (laws_least.calls k2 a0 t407 _ _ t408 t415 _ ?side1 ?side2 A56.out).mono ?_); (case side1 => repeat (first | exact (Kd.V_reads' HO410.out).2.2 | (with_reducible refine Kd.C_alloc ?_ _) | (with_reducible refine Kd.C_drewN ?_ _) | (with_reducible refine Kd.C_drew ?_))); (case side2 => exact (Kd.V_reads' HO410.out).2.1); rintro e w61 ⟨rfl, hb⟩; have n0_ := a0_ (Kd.V_below (by (with_reducible repeat (first | apply v1_ | apply v2_ | apply v3_)); exact HO_397001.out) hb); have n1_ := a0_ (Kd.V_below (by (with_reducible repeat (first | apply v1_ | apply v2_ | apply v3_)); exact HO_402001.out) hb); have n2_ := a0_ (Kd.V_below (by (with_reducible repeat (first | apply v1_ | apply v2_ | apply v3_)); exact HO410.out) hb); have n3_ := a0_ (Kd.R_below (by (with_reducible repeat (first | apply r1_ | apply r2_ | apply r3_)); exact HO413.out) hb); have n4_ := a0_ (blk_below (g := gb384) (o := .cells #[.bool a1_0, .slice A1_1 l1_1.length c1_1] 29 (0, 0)) (by (with_reducible repeat (first | refine k1_ ?_ _ | refine k2_ ?_ | refine k3_ ?_ _)); exact BK384.out) hb); have n5_ := a0_ (blk_below (g := gb385) (o := .cells #[.bool a2_0, .slice A2_1 l2_1.length c2_1] 29 (0, 0)) (by (with_reducible repeat (first | refine k1_ ?_ _ | refine k2_ ?_ | refine k3_ ?_ _)); exact BK385.out) hb); have n6_ := a0_ (blk_below (g := gb396) (o := .cells #[.bool t407, .slice Ao53 t408.length co53] 29 (0, 0)) (by (with_reducible repeat (first | refine k1_ ?_ _ | refine k2_ ?_ | refine k3_ ?_ _)); exact BK396.out) hb); have n7_ := a0_ (blk_below (g := gb401) (o := .cells #[.bool t397, .slice Ao33 t398.length co33] 29 (0, 0)) (by (with_reducible repeat (first | refine k1_ ?_ _ | refine k2_ ?_ | refine k3_ ?_ _)); exact BK401.out) hb); have n8_ := a0_ (below_step (by repeat (first | (with_reducible first | exact HB.out | apply b1_ | apply b2_ | apply b3_ | refine b4_ ?_ GE384.out | refine b4_ ?_ GE385.out | refine b4_ ?_ GE396.out | refine b4_ ?_ GE401.out) | exact HB.out)) hb); clear HO_397001; clear HO_402001; clear HO410; clear HO413; clear BK384; clear BK385; clear BK396; clear BK401; clear HB; have HO_397001 := n0_; have HO_402001 := n1_; have HO410 := n2_; have HO413 := n3_; have BK384 := n4_; have BK385 := n5_; have BK396 := n6_; have BK401 := n7_; have HB := n8_; clear n0_ n1_ n2_ n3_ n4_ n5_ n6_ n7_ n8_; (try clear hb); (try clear hb2); (try clear hk); (try clear hi)))
         go_meet
         case rel => exact ⟨_, (t415), (by first | rfl | (simp; done) | (simp [*]; done)), H', ⟨by have := HJ3.out; have := HK2.out; first | omega | exact Nat.le_refl _⟩, ⟨by (with_reducible repeat (first | apply v1_ | apply v2_ | apply v3_)); exact v4_ HO410.out (fun _ hk => ⟨hk.1.1, ⟨hk.1.2.1, ⟨hk.1.2.2.1, hk.1.2.2.2⟩⟩⟩)⟩, ⟨by (with_reducible repeat (first | apply v1_ | apply v2_ | apply v3_)); exact v4_ HO_402001.out (fun _ hk => ⟨hk.1.1, ⟨hk.1.2.1, ⟨hk.1.2.2.1, hk.1.2.2.2⟩⟩⟩)⟩, ⟨by (with_reducible repeat (first | refine k1_ ?_ _ | refine k2_ ?_ | refine k3_ ?_ _)); exact BK384.out⟩, ⟨by (with_reducible repeat (first | refine k1_ ?_ _ | refine k2_ ?_ | refine k3_ ?_ _)); exact BK385.out⟩, ⟨by (with_reducible repeat (first | refine k1_ ?_ _ | refine k2_ ?_ | refine k3_ ?_ _)); exact BK396.out⟩, ⟨by (with_reducible repeat (first | refine k1_ ?_ _ | refine k2_ ?_ | refine k3_ ?_ _)); exact BK401.out⟩, ⟨by repeat (first | (with_reducible first | exact HB.out | apply b1_ | apply b2_ | apply b3_ | refine b4_ ?_ GE384.out | refine b4_ ?_ GE385.out | refine b4_ ?_ GE396.out | refine b4_ ?_ GE401.out) | exact HB.out)⟩⟩
        ·
         replace c55 := Bool.eq_false_iff.mpr c55
         subst c55
         have H1 : (laws_power.j2 k2 a0 true a1_0 l1_1 a2_0 l2_1 t407 t408 t397 t398) = some (r1, r2) := by rw [if_neg (show ¬ (false = true) by decide)] at H; exact H
         clear H
         have H := H1
         clear H1
         have H' := a0_ H
         clear H
         go_wp2
         go_meet
         case rel => exact ⟨_, (true), (by first | rfl | (simp; done) | (simp [*]; done)), H', ⟨by have := HJ3.out; have := HK2.out; first | omega | exact Nat.le_refl _⟩, ⟨by (with_reducible repeat (first | apply v1_ | apply v2_ | apply v3_)); exact v4_ HO410.out (fun _ hk => ⟨hk.1.1, ⟨hk.1.2.1, ⟨hk.1.2.2.1, hk.1.2.2.2⟩⟩⟩)⟩, ⟨by (with_reducible repeat (first | apply v1_ | apply v2_ | apply v3_)); exact v4_ HO_402001.out (fun _ hk => ⟨hk.1.1, ⟨hk.1.2.1, ⟨hk.1.2.2.1, hk.1.2.2.2⟩⟩⟩)⟩, ⟨by (with_reducible repeat (first | refine k1_ ?_ _ | refine k2_ ?_ | refine k3_ ?_ _)); exact BK384.out⟩, ⟨by (with_reducible repeat (first | refine k1_ ?_ _ | refine k2_ ?_ | refine k3_ ?_ _)); exact BK385.out⟩, ⟨by (with_reducible repeat (first | refine k1_ ?_ _ | refine k2_ ?_ | refine k3_ ?_ _)); exact BK396.out⟩, ⟨by (with_reducible repeat (first | refine k1_ ?_ _ | refine k2_ ?_ | refine k3_ ?_ _)); exact BK401.out⟩, ⟨by repeat (first | (with_reducible first | exact HB.out | apply b1_ | apply b2_ | apply b3_ | refine b4_ ?_ GE384.out | refine b4_ ?_ GE385.out | refine b4_ ?_ GE396.out | refine b4_ ?_ GE401.out) | exact HB.out)⟩⟩
       case rest =>
        clear HC38
        try clear c1
        try clear c2
        try clear p2
        try clear c3
        try clear c4
        try clear c5
        try clear c8
        try clear c8b0
        try clear c10
        try clear c12
        try clear c14
        try clear c18
        try clear c21
        try clear c23
        try clear c24
        try clear c29
        try clear c30
        try clear c31
        try clear c35
        try clear c35b0
        try clear c36
        try clear c39
        try clear c40
        try clear c41
        try clear c43
        try clear c44
        try clear c47
        try clear c55
        try clear c57
        try clear c58
        try clear c59
        try clear hcz25_0
        try clear hcz25_1
        try clear hcz32_0
        try clear hcz32_1
        try clear hcz42_0
        try clear hcz42_1
        try clear hcz45_0
        try clear hcz45_1
        try clear hcz48_0
        try clear hcz48_1
        try clear hcz49_0
        try clear hcz49_1
        try clear hcz52_0
        try clear hcz52_1
        try clear hcz60_0
        try clear hcz60_1
        try clear hfz25_0
        try clear hfz25_1
        try clear hfz32_0
        try clear hfz32_1
        try clear hfz42_0
        try clear hfz42_1
        try clear hfz45_0
        try clear hfz45_1
        try clear hfz48_0
        try clear hfz48_1
        try clear hfz49_0
        try clear hfz49_1
        try clear hfz52_0
        try clear hfz52_1
        try clear hfz60_0
        try clear hfz60_1
        try clear p2
        obtain ⟨kq, x45_37, rfl, HA, HJ37, HO_397001, HO_402001, BK384, BK385, BK396, BK401, HB⟩ := hcut
        cases kq with
        | zero => exact absurd HA.out (by simp [laws_power.j2])
        | succ kj37 =>
         have H := HA.out
         clear HA
         simp only [laws_power.j2] at H
         by_cases c62 : x45_37 = true
         ·
          subst c62
          have H1 : (some (([] : List Int), false)) = some (r1, r2) := by rw [if_pos rfl] at H; exact H
          clear H
          have H := H1
          clear H1
          simp only [Option.some.injEq, Prod.mk.injEq] at H
          obtain ⟨rfl, rfl⟩ := H
          go_wp2
          go_ret2
          exact ⟨_, by first | rfl | (simp [e1_, e2_] <;> rfl) | (simp [*, e1_, e2_] <;> rfl), by first | exact Kd.R_nil _ _ _ _ _ | exact Kd.N_nil _ _ _ _ _ | exact Kd.V_nil _ _ _ _ _ | exact Kd.Q_nil _ _ _ _ _ | exact Kd.S_nil _ _ _ _ _, by repeat (first | (with_reducible first | exact HB.out | apply b1_ | apply b2_ | apply b3_ | refine b4_ ?_ GE384.out | refine b4_ ?_ GE385.out | refine b4_ ?_ GE396.out | refine b4_ ?_ GE401.out) | exact HB.out)⟩
         ·
          replace c62 := Bool.eq_false_iff.mpr c62
          subst c62
          have H1 : ((spec_WideInt.f kj37 1).bind fun bt417 => ((spec_WideAdd.f kj37 t397 t398 bt417.1 bt417.2).bind fun bt421 => (laws_power.l0 kj37 a0 a1_0 l1_1 a2_0 l2_1 t407 t408 bt421.1 bt421.2))) = some (r1, r2) := by rw [if_neg (show ¬ (false = true) by decide)] at H; exact H
          clear H
          have H := H1
          clear H1
          replace H := Option.bind_eq_some_iff.mp H
          obtain ⟨⟨t417, t418⟩, A630, H⟩ := H
          replace H : ((spec_WideAdd.f kj37 t397 t398 t417 t418).bind fun bt421 => (laws_power.l0 kj37 a0 a1_0 l1_1 a2_0 l2_1 t407 t408 bt421.1 bt421.2)) = some (r1, r2) := H
          have A63 := a0_ A630
          clear A630
          replace H := Option.bind_eq_some_iff.mp H
          obtain ⟨⟨t421, t422⟩, A640, H⟩ := H
          replace H : (laws_power.l0 kj37 a0 a1_0 l1_1 a2_0 l2_1 t407 t408 t421 t422) = some (r1, r2) := H
          have A64 := a0_ A640
          clear A640
          have H' := a0_ H
          clear H
          have hnb65 := NB401_384.out
          have hnc65 := NB384_401.out
          have hnb66 := NB401_385.out
          have hnc66 := NB385_401.out
          have hnb67 := NB401_396.out
          have hnc67 := NB396_401.out
          have hcz68_0 : wc.cell? ⟨gb401, 0, none⟩ = some (.bool t397) := (blk_cell BK401.out 0).trans rfl
          have hcz68_1 : wc.cell? ⟨gb401, 1, none⟩ = some (.slice Ao33 t398.length co33) := (blk_cell BK401.out 1).trans rfl
          have hfz68_0 := blk_frozen BK401.out 0
          have hfz68_1 := blk_frozen BK401.out 1
          try go_wp2_with (first | ((with_reducible refine gate_dst (N := 9) rfl ?_); refine box_event ?hg (N := 9) ?hd (cs := #[.bool false, .slice none 0 0]) (t := 29) ?hr ?_; (case hd => rfl); (case hg => rfl); (case hr => first | (go_simp; done) | (go_simp; rfl)); intro gb416 hg w69 hbox hb; have n0_ := a0_ (Kd.V_below (Kd.V_elderB (by (with_reducible repeat (first | apply v1_ | apply v2_ | apply v3_)); exact HO_397001.out) gb416 (Nat.le_of_eq hg.symm)) hb); have n1_ := a0_ (Kd.V_below (Kd.V_elderB (by (with_reducible repeat (first | apply v1_ | apply v2_ | apply v3_)); exact HO_402001.out) gb416 (Nat.le_of_eq hg.symm)) hb); have n2_ := a0_ (blk_below (g := gb384) (o := .cells #[.bool a1_0, .slice A1_1 l1_1.length c1_1] 29 (0, 0)) (by (with_reducible repeat (first | refine k1_ ?_ _ | refine k2_ ?_ | refine k3_ ?_ _)); exact BK384.out) hb); have n3_ := a0_ (blk_below (g := gb385) (o := .cells #[.bool a2_0, .slice A2_1 l2_1.length c2_1] 29 (0, 0)) (by (with_reducible repeat (first | refine k1_ ?_ _ | refine k2_ ?_ | refine k3_ ?_ _)); exact BK385.out) hb); have n4_ := a0_ (blk_below (g := gb396) (o := .cells #[.bool t407, .slice Ao53 t408.length co53] 29 (0, 0)) (by (with_reducible repeat (first | refine k1_ ?_ _ | refine k2_ ?_ | refine k3_ ?_ _)); exact BK396.out) hb); have n5_ := a0_ (blk_below (g := gb401) (o := .cells #[.bool t397, .slice Ao33 t398.length co33] 29 (0, 0)) (by (with_reducible repeat (first | refine k1_ ?_ _ | refine k2_ ?_ | refine k3_ ?_ _)); exact BK401.out) hb); have n6_ := a0_ (below_step (by repeat (first | (with_reducible first | exact HB.out | apply b1_ | apply b2_ | apply b3_ | refine b4_ ?_ GE384.out | refine b4_ ?_ GE385.out | refine b4_ ?_ GE396.out | refine b4_ ?_ GE401.out) | exact HB.out)) hb); have n7_ := a0_ (hbox); have n8_ := a0_ ((by rw [hg]; exact (below_size (by repeat (first | (with_reducible first | exact HB.out | apply b1_ | apply b2_ | apply b3_ | refine b4_ ?_ GE384.out | refine b4_ ?_ GE385.out | refine b4_ ?_ GE396.out | refine b4_ ?_ GE401.out) | exact HB.out))) : w.heap.size ≤ gb416)); have n9_ := a0_ ((by rw [hg]; exact (below_size (by repeat (first | (with_reducible first | exact HB.out | apply b1_ | apply b2_ | apply b3_ | refine b4_ ?_ GE384.out | refine b4_ ?_ GE385.out | refine b4_ ?_ GE396.out | refine b4_ ?_ GE401.out) | exact HB.out))) : w.heap.size ≤ gb416)); have n10_ := a0_ ((by rw [hg]; exact Nat.ne_of_lt (blk_lt (g := gb384) (o := .cells #[.bool a1_0, .slice A1_1 l1_1.length c1_1] 29 (0, 0)) (by (with_reducible repeat (first | refine k1_ ?_ _ | refine k2_ ?_ | refine k3_ ?_ _)); exact BK384.out)) : gb384 ≠ gb416)); have n11_ := a0_ ((by rw [hg]; exact Nat.ne_of_gt (blk_lt (g := gb384) (o := .cells #[.bool a1_0, .slice A1_1 l1_1.length c1_1] 29 (0, 0)) (by (with_reducible repeat (first | refine k1_ ?_ _ | refine k2_ ?_ | refine k3_ ?_ _)); exact BK384.out)) : gb416 ≠ gb384)); have n12_ := a0_ ((by rw [hg]; exact Nat.ne_of_lt (blk_lt (g := gb385) (o := .cells #[.bool a2_0, .slice A2_1 l2_1.length c2_1] 29 (0, 0)) (by (with_reducible repeat (first | refine k1_ ?_ _ | refine k2_ ?_ | refine k3_ ?_ _)); exact BK385.out)) : gb385 ≠ gb416)); have n13_ := a0_ ((by rw [hg]; exact Nat.ne_of_gt (blk_lt (g := gb385) (o := .cells #[.bool a2_0, .slice A2_1 l2_1.length c2_1] 29 (0, 0)) (by (with_reducible repeat (first | refine k1_ ?_ _ | refine k2_ ?_ | refine k3_ ?_ _)); exact BK385.out)) : gb416 ≠ gb385)); have n14_ := a0_ ((by rw [hg]; exact Nat.ne_of_lt (blk_lt (g := gb396) (o := .cells #[.bool t407, .slice Ao53 t408.length co53] 29 (0, 0)) (by (with_reducible repeat (first | refine k1_ ?_ _ | refine k2_ ?_ | refine k3_ ?_ _)); exact BK396.out)) : gb396 ≠ gb416)); have n15_ := a0_ ((by rw [hg]; exact Nat.ne_of_gt (blk_lt (g := gb396) (o := .cells #[.bool t407, .slice Ao53 t408.length co53] 29 (0, 0)) (by (with_reducible repeat (first | refine k1_ ?_ _ | refine k2_ ?_ | refine k3_ ?_ _)); exact BK396.out)) : gb416 ≠ gb396)); have n16_ := a0_ ((by rw [hg]; exact Nat.ne_of_lt (blk_lt (g := gb401) (o := .cells #[.bool t397, .slice Ao33 t398.length co33] 29 (0, 0)) (by (with_reducible repeat (first | refine k1_ ?_ _ | refine k2_ ?_ | refine k3_ ?_ _)); exact BK401.out)) : gb401 ≠ gb416)); have n17_ := a0_ ((by rw [hg]; exact Nat.ne_of_gt (blk_lt (g := gb401) (o := .cells #[.bool t397, .slice Ao33 t398.length co33] 29 (0, 0)) (by (with_reducible repeat (first | refine k1_ ?_ _ | refine k2_ ?_ | refine k3_ ?_ _)); exact BK401.out)) : gb416 ≠ gb401)); clear HO_397001; clear HO_402001; clear BK384; clear BK385; clear BK396; clear BK401; clear HB; have HO_397001 := n0_; have HO_402001 := n1_; have BK384 := n2_; have BK385 := n3_; have BK396 := n4_; have BK401 := n5_; have HB := n6_; have BK416 := n7_; have GW416 := n8_; have GE416 := n9_; have NB384_416 := n10_; have NB416_384 := n11_; have NB385_416 := n12_; have NB416_385 := n13_; have NB396_416 := n14_; have NB416_396 := n15_; have NB401_416 := n16_; have NB416_401 := n17_; clear n0_ n1_ n2_ n3_ n4_ n5_ n6_ n7_ n8_ n9_ n10_ n11_ n12_ n13_ n14_ n15_ n16_ n17_; clear hb hbox hg; have hnb70 := NB416_384.out; have hnc70 := NB384_416.out; have hnb71 := NB416_385.out; have hnc71 := NB385_416.out; have hnb72 := NB416_396.out; have hnc72 := NB396_416.out; have hnb73 := NB416_401.out; have hnc73 := NB401_416.out; have hcz74_0 : w69.cell? ⟨gb416, 0, none⟩ = some (.bool false) := (blk_cell BK416.out 0).trans rfl; have hcz74_1 : w69.cell? ⟨gb416, 1, none⟩ = some (.slice none 0 0) := (blk_cell BK416.out 1).trans rfl; have hfz74_0 := blk_frozen BK416.out 0; have hfz74_1 := blk_frozen BK416.out 1))
          have n0_ : Aside0 (Kd.V (Kd.int .u32) 96 ((w69.setCell ⟨gb416, 0, none⟩ (.bool t397)).setCell ⟨gb416, 1, none⟩ (.slice Ao33 t398.length co33)) w.heap.size (fun k_ => k_ ≠ gb384 ∧ k_ ≠ gb385 ∧ k_ ≠ gb396 ∧ k_ ≠ gb401 ∧ k_ ≠ gb416) (.slice Ao53 t408.length co53) t408) := ⟨by (with_reducible repeat (first | apply v1_ | apply v2_ | apply v3_)); exact v4_ (v5_ (p := ⟨gb416, 1, none⟩) (v5_ (p := ⟨gb416, 0, none⟩) (v4_ HO_397001.out (fun k_ hk => (⟨hk, hk.2⟩ : _ ∧ k_ ≠ gb416))) (fun _ hk => hk.2) (.bool t397)) (fun _ hk => hk.2) (.slice Ao33 t398.length co33)) (fun _ hk => ⟨hk.1.1.1, ⟨hk.1.1.2.1, ⟨hk.1.1.2.2.1, ⟨hk.1.1.2.2.2, hk.1.2⟩⟩⟩⟩)⟩
          have n1_ : Aside0 (Kd.V (Kd.int .u32) 96 ((w69.setCell ⟨gb416, 0, none⟩ (.bool t397)).setCell ⟨gb416, 1, none⟩ (.slice Ao33 t398.length co33)) w.heap.size (fun k_ => k_ ≠ gb384 ∧ k_ ≠ gb385 ∧ k_ ≠ gb396 ∧ k_ ≠ gb401 ∧ k_ ≠ gb416) (.slice Ao33 t398.length co33) t398) := ⟨by (with_reducible repeat (first | apply v1_ | apply v2_ | apply v3_)); exact v4_ (v5_ (p := ⟨gb416, 1, none⟩) (v5_ (p := ⟨gb416, 0, none⟩) (v4_ HO_402001.out (fun k_ hk => (⟨hk, hk.2⟩ : _ ∧ k_ ≠ gb416))) (fun _ hk => hk.2) (.bool t397)) (fun _ hk => hk.2) (.slice Ao33 t398.length co33)) (fun _ hk => ⟨hk.1.1.1, ⟨hk.1.1.2.1, ⟨hk.1.1.2.2.1, ⟨hk.1.1.2.2.2, hk.1.2⟩⟩⟩⟩)⟩
          have n2_ : Aside0 (((w69.setCell ⟨gb416, 0, none⟩ (.bool t397)).setCell ⟨gb416, 1, none⟩ (.slice Ao33 t398.length co33)).heap[gb384]? = some (.cells #[.bool a1_0, .slice A1_1 l1_1.length c1_1] 29 (0, 0))) := ⟨by (with_reducible repeat (first | refine k1_ ?_ _ | refine k2_ ?_ | refine k3_ ?_ _)); refine blk_far ?_ NB384_416.out _; (with_reducible repeat (first | refine k1_ ?_ _ | refine k2_ ?_ | refine k3_ ?_ _)); refine blk_far ?_ NB384_416.out _; (with_reducible repeat (first | refine k1_ ?_ _ | refine k2_ ?_ | refine k3_ ?_ _)); exact BK384.out⟩
          have n3_ : Aside0 (((w69.setCell ⟨gb416, 0, none⟩ (.bool t397)).setCell ⟨gb416, 1, none⟩ (.slice Ao33 t398.length co33)).heap[gb385]? = some (.cells #[.bool a2_0, .slice A2_1 l2_1.length c2_1] 29 (0, 0))) := ⟨by (with_reducible repeat (first | refine k1_ ?_ _ | refine k2_ ?_ | refine k3_ ?_ _)); refine blk_far ?_ NB385_416.out _; (with_reducible repeat (first | refine k1_ ?_ _ | refine k2_ ?_ | refine k3_ ?_ _)); refine blk_far ?_ NB385_416.out _; (with_reducible repeat (first | refine k1_ ?_ _ | refine k2_ ?_ | refine k3_ ?_ _)); exact BK385.out⟩
          have n4_ : Aside0 (((w69.setCell ⟨gb416, 0, none⟩ (.bool t397)).setCell ⟨gb416, 1, none⟩ (.slice Ao33 t398.length co33)).heap[gb396]? = some (.cells #[.bool t407, .slice Ao53 t408.length co53] 29 (0, 0))) := ⟨by (with_reducible repeat (first | refine k1_ ?_ _ | refine k2_ ?_ | refine k3_ ?_ _)); refine blk_far ?_ NB396_416.out _; (with_reducible repeat (first | refine k1_ ?_ _ | refine k2_ ?_ | refine k3_ ?_ _)); refine blk_far ?_ NB396_416.out _; (with_reducible repeat (first | refine k1_ ?_ _ | refine k2_ ?_ | refine k3_ ?_ _)); exact BK396.out⟩
          have n5_ : Aside0 (((w69.setCell ⟨gb416, 0, none⟩ (.bool t397)).setCell ⟨gb416, 1, none⟩ (.slice Ao33 t398.length co33)).heap[gb401]? = some (.cells #[.bool t397, .slice Ao33 t398.length co33] 29 (0, 0))) := ⟨by (with_reducible repeat (first | refine k1_ ?_ _ | refine k2_ ?_ | refine k3_ ?_ _)); refine blk_far ?_ NB401_416.out _; (with_reducible repeat (first | refine k1_ ?_ _ | refine k2_ ?_ | refine k3_ ?_ _)); refine blk_far ?_ NB401_416.out _; (with_reducible repeat (first | refine k1_ ?_ _ | refine k2_ ?_ | refine k3_ ?_ _)); exact BK401.out⟩
          have n6_ : Aside0 (((w69.setCell ⟨gb416, 0, none⟩ (.bool t397)).setCell ⟨gb416, 1, none⟩ (.slice Ao33 t398.length co33)).heap[gb416]? = some (.cells #[.bool t397, .slice Ao33 t398.length co33] 29 (0, 0))) := ⟨by (with_reducible repeat (first | refine k1_ ?_ _ | refine k2_ ?_ | refine k3_ ?_ _)); refine blk_put (cs := #[.bool t397, .slice none 0 0]) ?_ 1 _ rfl; (with_reducible repeat (first | refine k1_ ?_ _ | refine k2_ ?_ | refine k3_ ?_ _)); refine blk_put (cs := #[.bool false, .slice none 0 0]) ?_ 0 _ rfl; (with_reducible repeat (first | refine k1_ ?_ _ | refine k2_ ?_ | refine k3_ ?_ _)); exact BK416.out⟩
          have n7_ : Aside0 (Below w.heap.size w ((w69.setCell ⟨gb416, 0, none⟩ (.bool t397)).setCell ⟨gb416, 1, none⟩ (.slice Ao33 t398.length co33))) := ⟨by repeat (first | (with_reducible first | exact HB.out | apply b1_ | apply b2_ | apply b3_ | refine b4_ ?_ GE384.out | refine b4_ ?_ GE385.out | refine b4_ ?_ GE396.out | refine b4_ ?_ GE401.out | refine b4_ ?_ GE416.out) | exact HB.out)⟩
          (try clear HO_397001)
          (try clear HO_402001)
          (try clear BK384)
          (try clear BK385)
          (try clear BK396)
          (try clear BK401)
          (try clear BK416)
          (try clear HB)
          generalize ((w69.setCell ⟨gb416, 0, none⟩ (.bool t397)).setCell ⟨gb416, 1, none⟩ (.slice Ao33 t398.length co33)) = w75 at n0_ n1_ n2_ n3_ n4_ n5_ n6_ n7_ ⊢
          have HO_397001 := n0_
          have HO_402001 := n1_
          have BK384 := n2_
          have BK385 := n3_
          have BK396 := n4_
          have BK401 := n5_
          have BK416 := n6_
          have HB := n7_
          clear n0_ n1_ n2_ n3_ n4_ n5_ n6_ n7_
          have n0_ := a0_ (v3_ HO_397001.out)
          have n1_ := a0_ (v3_ HO_402001.out)
          have n2_ := a0_ (k2_ BK384.out)
          have n3_ := a0_ (k2_ BK385.out)
          have n4_ := a0_ (k2_ BK396.out)
          have n5_ := a0_ (k2_ BK401.out)
          have n6_ := a0_ (k2_ BK416.out)
          have n7_ := a0_ (b3_ HB.out)
          clear HO_397001
          clear HO_402001
          clear BK384
          clear BK385
          clear BK396
          clear BK401
          clear BK416
          clear HB
          have HO_397001 := n0_
          have HO_402001 := n1_
          have BK384 := n2_
          have BK385 := n3_
          have BK396 := n4_
          have BK401 := n5_
          have BK416 := n6_
          have HB := n7_
          clear n0_ n1_ n2_ n3_ n4_ n5_ n6_ n7_
          refine start_ (n := 4) (S := fun w' => w'.cell? ⟨gb416, 0, none⟩ = some (.bool t397) ∧ w'.cell? ⟨gb416, 1, none⟩ = some (.slice Ao33 t398.length co33)) (ds := [3]) #[false, false, false, false] (by kernel_rfl) rfl rfl ⟨(blk_cell BK416.out 0).trans rfl, (blk_cell BK416.out 1).trans rfl⟩ (fun hHeld => ?_)
          generalize w75.drew = w76 at HO_397001 HO_402001 BK384 BK385 BK396 BK401 BK416 HB hHeld ⊢
          refine take_ (i := 0) (N := some 27) (v := ?_) (a' := ?_) #[true, false, false, false] rfl rfl (by kernel_rfl) (fun _ _ _ h => h) (Or.inl ⟨by rfl, ?_⟩) hHeld ?_ ?_
          rotate_left
          ·
           rintro w' ⟨s0, s1⟩
           go_simp
           with_reducible rfl
          rotate_left
          ·
           simp only [Act.put, s1_, s2_, s3_, i64_w, i32_w]
           rfl
          refine one_ (i := 1) (N := some 28) #[true, true, false, false] rfl rfl (by kernel_rfl) (by decide) (fun K hK => ?_)
          refine goes_ Try.func35 (by kernel_rfl) rfl #[.int .i64 1] (by rfl) rfl rfl (by (try simp only [List.map_toArray, List.map_cons, List.map_nil]); first | done | rfl | (simp only [List.length_drop, List.length_take]; rfl)) ?_
          with_reducible refine (spec_WideInt.calls kj37 1 t417 t418 _ A63.out).mono ?_
          rintro e w77 ⟨v419, rfl, ho0, hb⟩
          refine ⟨_, rfl, ?_⟩
          have n0_ := a0_ (Kd.V_below (by (with_reducible repeat (first | apply v1_ | apply v2_ | apply v3_)); exact HO_397001.out) hb)
          have n1_ := a0_ (Kd.V_below (by (with_reducible repeat (first | apply v1_ | apply v2_ | apply v3_)); exact HO_402001.out) hb)
          have n2_ := a0_ (Kd.V_lower (v4_ (ok' := fun k_ => k_ ≠ gb384 ∧ k_ ≠ gb385 ∧ k_ ≠ gb396 ∧ k_ ≠ gb401 ∧ k_ ≠ gb416) ho0 (fun k_ hk_ => ⟨(Kd.freshB (g := gb384) (o := .cells #[.bool a1_0, .slice A1_1 l1_1.length c1_1] 29 (0, 0)) (by (with_reducible repeat (first | refine k1_ ?_ _ | refine k2_ ?_ | refine k3_ ?_ _)); exact BK384.out) k_ hk_), (Kd.freshB (g := gb385) (o := .cells #[.bool a2_0, .slice A2_1 l2_1.length c2_1] 29 (0, 0)) (by (with_reducible repeat (first | refine k1_ ?_ _ | refine k2_ ?_ | refine k3_ ?_ _)); exact BK385.out) k_ hk_), (Kd.freshB (g := gb396) (o := .cells #[.bool t407, .slice Ao53 t408.length co53] 29 (0, 0)) (by (with_reducible repeat (first | refine k1_ ?_ _ | refine k2_ ?_ | refine k3_ ?_ _)); exact BK396.out) k_ hk_), (Kd.freshB (g := gb401) (o := .cells #[.bool t397, .slice Ao33 t398.length co33] 29 (0, 0)) (by (with_reducible repeat (first | refine k1_ ?_ _ | refine k2_ ?_ | refine k3_ ?_ _)); exact BK401.out) k_ hk_), (Kd.freshB (g := gb416) (o := .cells #[.bool t397, .slice Ao33 t398.length co33] 29 (0, 0)) (by (with_reducible repeat (first | refine k1_ ?_ _ | refine k2_ ?_ | refine k3_ ?_ _)); exact BK416.out) k_ hk_)⟩)) (below_size (by repeat (first | (with_reducible first | exact HB.out | apply b1_ | apply b2_ | apply b3_ | refine b4_ ?_ GE384.out | refine b4_ ?_ GE385.out | refine b4_ ?_ GE396.out | refine b4_ ?_ GE401.out | refine b4_ ?_ GE416.out) | exact HB.out))))
          have n3_ := a0_ (blk_below (g := gb384) (o := .cells #[.bool a1_0, .slice A1_1 l1_1.length c1_1] 29 (0, 0)) (by (with_reducible repeat (first | refine k1_ ?_ _ | refine k2_ ?_ | refine k3_ ?_ _)); exact BK384.out) hb)
          have n4_ := a0_ (blk_below (g := gb385) (o := .cells #[.bool a2_0, .slice A2_1 l2_1.length c2_1] 29 (0, 0)) (by (with_reducible repeat (first | refine k1_ ?_ _ | refine k2_ ?_ | refine k3_ ?_ _)); exact BK385.out) hb)
          have n5_ := a0_ (blk_below (g := gb396) (o := .cells #[.bool t407, .slice Ao53 t408.length co53] 29 (0, 0)) (by (with_reducible repeat (first | refine k1_ ?_ _ | refine k2_ ?_ | refine k3_ ?_ _)); exact BK396.out) hb)
          have n6_ := a0_ (blk_below (g := gb401) (o := .cells #[.bool t397, .slice Ao33 t398.length co33] 29 (0, 0)) (by (with_reducible repeat (first | refine k1_ ?_ _ | refine k2_ ?_ | refine k3_ ?_ _)); exact BK401.out) hb)
          have n7_ := a0_ (blk_below (g := gb416) (o := .cells #[.bool t397, .slice Ao33 t398.length co33] 29 (0, 0)) (by (with_reducible repeat (first | refine k1_ ?_ _ | refine k2_ ?_ | refine k3_ ?_ _)); exact BK416.out) hb)
          have n8_ := a0_ (below_step (by repeat (first | (with_reducible first | exact HB.out | apply b1_ | apply b2_ | apply b3_ | refine b4_ ?_ GE384.out | refine b4_ ?_ GE385.out | refine b4_ ?_ GE396.out | refine b4_ ?_ GE401.out | refine b4_ ?_ GE416.out) | exact HB.out)) hb)
          clear HO_397001
          clear HO_402001
          clear BK384
          clear BK385
          clear BK396
          clear BK401
          clear BK416
          clear HB
          have HO_397001 := n0_
          have HO_402001 := n1_
          have HO420 := n2_
          have BK384 := n3_
          have BK385 := n4_
          have BK396 := n5_
          have BK401 := n6_
          have BK416 := n7_
          have HB := n8_
          clear n0_ n1_ n2_ n3_ n4_ n5_ n6_ n7_ n8_
          (try clear hb)
          (try clear hb2)
          (try clear hk)
          (try clear hi)
          (try clear ho0)
          obtain ⟨Ao78, co78, eo78⟩ := Kd.V_slice HO420.out
          (first | subst eo78 | (injection eo78 with f1_ f2_ f3_; have f4_ := f1_.symm; have f5_ := f3_.symm; clear f1_ f2_ f3_; subst f4_; subst f5_))
          refine hK.out _ _ ⟨(blk_cell BK416.out 0).trans rfl, (blk_cell BK416.out 1).trans rfl⟩ (fun hHeld => ?_)
          clear hK K
          refine norm_ (a' := ?_) ?_ ?_
          rotate_left
          ·
           show Act.put _ (some 28) _ = _
           simp only [Act.put, s1_, s2_, s3_, i64_w, i32_w]
           rfl
          refine one_ (i := 2) (N := some 29) #[true, true, true, false] rfl rfl (by kernel_rfl) (by decide) (fun K hK => ?_)
          refine goes_ Try.func17 (by kernel_rfl) rfl #[.agg #[.bool t397, .slice Ao33 t398.length co33], .agg #[.bool t417, .slice Ao78 t418.length co78]] (by rfl) rfl rfl (by (try simp only [List.map_toArray, List.map_cons, List.map_nil]); first | done | rfl | (simp only [List.length_drop, List.length_take]; rfl)) ?_
          with_reducible refine (spec_WideAdd.calls kj37 t397 _ _ t398 t417 _ _ t418 t421 t422 _ ?side1 ?side2 ?side3 ?side4 A64.out).mono ?_
          (case side1 => repeat (first | exact (Kd.V_reads' HO_402001.out).2.2 | (with_reducible refine Kd.C_alloc ?_ _) | (with_reducible refine Kd.C_drewN ?_ _) | (with_reducible refine Kd.C_drew ?_)))
          (case side2 => exact (Kd.V_reads' HO_402001.out).2.1)
          (case side3 => repeat (first | exact (Kd.V_reads' HO420.out).2.2 | (with_reducible refine Kd.C_alloc ?_ _) | (with_reducible refine Kd.C_drewN ?_ _) | (with_reducible refine Kd.C_drew ?_)))
          (case side4 => exact (Kd.V_reads' HO420.out).2.1)
          rintro e w79 ⟨v423, rfl, ho0, hb⟩
          refine ⟨_, rfl, ?_⟩
          have n0_ := a0_ (Kd.V_below (by (with_reducible repeat (first | apply v1_ | apply v2_ | apply v3_)); exact HO_397001.out) hb)
          have n1_ := a0_ (Kd.V_below (by (with_reducible repeat (first | apply v1_ | apply v2_ | apply v3_)); exact HO_402001.out) hb)
          have n2_ := a0_ (Kd.V_below (by (with_reducible repeat (first | apply v1_ | apply v2_ | apply v3_)); exact HO420.out) hb)
          have n3_ := a0_ (Kd.V_lower (v4_ (ok' := fun k_ => k_ ≠ gb384 ∧ k_ ≠ gb385 ∧ k_ ≠ gb396 ∧ k_ ≠ gb401 ∧ k_ ≠ gb416) ho0 (fun k_ hk_ => ⟨(Kd.freshB (g := gb384) (o := .cells #[.bool a1_0, .slice A1_1 l1_1.length c1_1] 29 (0, 0)) (by (with_reducible repeat (first | refine k1_ ?_ _ | refine k2_ ?_ | refine k3_ ?_ _)); exact BK384.out) k_ hk_), (Kd.freshB (g := gb385) (o := .cells #[.bool a2_0, .slice A2_1 l2_1.length c2_1] 29 (0, 0)) (by (with_reducible repeat (first | refine k1_ ?_ _ | refine k2_ ?_ | refine k3_ ?_ _)); exact BK385.out) k_ hk_), (Kd.freshB (g := gb396) (o := .cells #[.bool t407, .slice Ao53 t408.length co53] 29 (0, 0)) (by (with_reducible repeat (first | refine k1_ ?_ _ | refine k2_ ?_ | refine k3_ ?_ _)); exact BK396.out) k_ hk_), (Kd.freshB (g := gb401) (o := .cells #[.bool t397, .slice Ao33 t398.length co33] 29 (0, 0)) (by (with_reducible repeat (first | refine k1_ ?_ _ | refine k2_ ?_ | refine k3_ ?_ _)); exact BK401.out) k_ hk_), (Kd.freshB (g := gb416) (o := .cells #[.bool t397, .slice Ao33 t398.length co33] 29 (0, 0)) (by (with_reducible repeat (first | refine k1_ ?_ _ | refine k2_ ?_ | refine k3_ ?_ _)); exact BK416.out) k_ hk_)⟩)) (below_size (by repeat (first | (with_reducible first | exact HB.out | apply b1_ | apply b2_ | apply b3_ | refine b4_ ?_ GE384.out | refine b4_ ?_ GE385.out | refine b4_ ?_ GE396.out | refine b4_ ?_ GE401.out | refine b4_ ?_ GE416.out) | exact HB.out))))
          have n4_ := a0_ (blk_below (g := gb384) (o := .cells #[.bool a1_0, .slice A1_1 l1_1.length c1_1] 29 (0, 0)) (by (with_reducible repeat (first | refine k1_ ?_ _ | refine k2_ ?_ | refine k3_ ?_ _)); exact BK384.out) hb)
          have n5_ := a0_ (blk_below (g := gb385) (o := .cells #[.bool a2_0, .slice A2_1 l2_1.length c2_1] 29 (0, 0)) (by (with_reducible repeat (first | refine k1_ ?_ _ | refine k2_ ?_ | refine k3_ ?_ _)); exact BK385.out) hb)
          have n6_ := a0_ (blk_below (g := gb396) (o := .cells #[.bool t407, .slice Ao53 t408.length co53] 29 (0, 0)) (by (with_reducible repeat (first | refine k1_ ?_ _ | refine k2_ ?_ | refine k3_ ?_ _)); exact BK396.out) hb)
          have n7_ := a0_ (blk_below (g := gb401) (o := .cells #[.bool t397, .slice Ao33 t398.length co33] 29 (0, 0)) (by (with_reducible repeat (first | refine k1_ ?_ _ | refine k2_ ?_ | refine k3_ ?_ _)); exact BK401.out) hb)
          have n8_ := a0_ (blk_below (g := gb416) (o := .cells #[.bool t397, .slice Ao33 t398.length co33] 29 (0, 0)) (by (with_reducible repeat (first | refine k1_ ?_ _ | refine k2_ ?_ | refine k3_ ?_ _)); exact BK416.out) hb)
          have n9_ := a0_ (below_step (by repeat (first | (with_reducible first | exact HB.out | apply b1_ | apply b2_ | apply b3_ | refine b4_ ?_ GE384.out | refine b4_ ?_ GE385.out | refine b4_ ?_ GE396.out | refine b4_ ?_ GE401.out | refine b4_ ?_ GE416.out) | exact HB.out)) hb)
          clear HO_397001
          clear HO_402001
          clear HO420
          clear BK384
          clear BK385
          clear BK396
          clear BK401
          clear BK416
          clear HB
          have HO_397001 := n0_
          have HO_402001 := n1_
          have HO420 := n2_
          have HO424 := n3_
          have BK384 := n4_
          have BK385 := n5_
          have BK396 := n6_
          have BK401 := n7_
          have BK416 := n8_
          have HB := n9_
          clear n0_ n1_ n2_ n3_ n4_ n5_ n6_ n7_ n8_ n9_
          (try clear hb)
          (try clear hb2)
          (try clear hk)
          (try clear hi)
          (try clear ho0)
          obtain ⟨Ao81, co81, eo81⟩ := Kd.V_slice HO424.out
          (first | subst eo81 | (injection eo81 with f1_ f2_ f3_; have f4_ := f1_.symm; have f5_ := f3_.symm; clear f1_ f2_ f3_; subst f4_; subst f5_))
          refine hK.out _ _ ⟨(blk_cell BK416.out 0).trans rfl, (blk_cell BK416.out 1).trans rfl⟩ (fun hHeld => ?_)
          clear hK K
          refine norm_ (a' := ?_) ?_ ?_
          rotate_left
          ·
           show Act.put _ (some 29) _ = _
           simp only [Act.put, s1_, s2_, s3_, i64_w, i32_w]
           rfl
          refine last_ (i := 3) (N := none) #[true, true, true, true] rfl rfl (by kernel_rfl) (by decide) (fun K hK => ?_)
          have hs80 : w79.cell? ⟨gb416, 0, none⟩ = some (.bool t397) := (blk_cell BK416.out 0).trans rfl
          have hfs80 := blk_frozen BK416.out 0
          have hns80_0 := NB384_416.out
          have hns80_1 := NB385_416.out
          have hns80_2 := NB396_416.out
          have hns80_3 := NB401_416.out
          have hms80_0 := NB416_384.out
          have hms80_1 := NB416_385.out
          have hms80_2 := NB416_396.out
          have hms80_3 := NB416_401.out
          have hs82 : w79.cell? ⟨gb416, 1, none⟩ = some (.slice Ao33 t398.length co33) := (blk_cell BK416.out 1).trans rfl
          have hfs82 := blk_frozen BK416.out 1
          have hns82_0 := NB384_416.out
          have hns82_1 := NB385_416.out
          have hns82_2 := NB396_416.out
          have hns82_3 := NB401_416.out
          have hms82_0 := NB416_384.out
          have hms82_1 := NB416_385.out
          have hms82_2 := NB416_396.out
          have hms82_3 := NB416_401.out
          refine skip_ (w1 := ?_) (by rfl) rfl ?_ ?_
          rotate_left
          ·
           go_simp
           rfl
          refine hK.out _ _ ?_
          clear hK K
          refine done_ (by kernel_rfl) ?_
          try go_wp2
          go_roundg kj37
          case measure => have := HJ3.out; have := HK2.out; have := HJ37.out; omega
          case rel => exact ⟨gb416, t421, t422, Ao81, co81, (t407), (t408), (.slice Ao53 t408.length co53), (by first | rfl | (simp; done) | (simp [*]; done)), NB384_416, NB416_384, NB385_416, NB416_385, NB396_416, NB416_396, GE416, H', ⟨by have := HJ3.out; have := HK2.out; have := HJ37.out; omega⟩, ⟨by (with_reducible repeat (first | apply v1_ | apply v2_ | apply v3_)); exact v4_ (v5_ (p := ⟨gb416, 1, none⟩) (v5_ (p := ⟨gb416, 0, none⟩) (v4_ HO_397001.out (fun k_ hk => (⟨hk, hk.2.2.2.2⟩ : _ ∧ k_ ≠ gb416))) (fun _ hk => hk.2) (.bool t421)) (fun _ hk => hk.2) (.slice Ao81 t422.length co81)) (fun _ hk => ⟨hk.1.1, ⟨hk.1.2.1, ⟨hk.1.2.2.1, hk.2⟩⟩⟩)⟩, ⟨by (with_reducible repeat (first | apply v1_ | apply v2_ | apply v3_)); exact v4_ (v5_ (p := ⟨gb416, 1, none⟩) (v5_ (p := ⟨gb416, 0, none⟩) (v4_ HO424.out (fun k_ hk => (⟨hk, hk.2.2.2.2⟩ : _ ∧ k_ ≠ gb416))) (fun _ hk => hk.2) (.bool t421)) (fun _ hk => hk.2) (.slice Ao81 t422.length co81)) (fun _ hk => ⟨hk.1.1, ⟨hk.1.2.1, ⟨hk.1.2.2.1, hk.2⟩⟩⟩)⟩, ⟨by (with_reducible repeat (first | refine k1_ ?_ _ | refine k2_ ?_ | refine k3_ ?_ _)); refine blk_far ?_ NB384_416.out _; (with_reducible repeat (first | refine k1_ ?_ _ | refine k2_ ?_ | refine k3_ ?_ _)); refine blk_far ?_ NB384_416.out _; (with_reducible repeat (first | refine k1_ ?_ _ | refine k2_ ?_ | refine k3_ ?_ _)); exact BK384.out⟩, ⟨by (with_reducible repeat (first | refine k1_ ?_ _ | refine k2_ ?_ | refine k3_ ?_ _)); refine blk_far ?_ NB385_416.out _; (with_reducible repeat (first | refine k1_ ?_ _ | refine k2_ ?_ | refine k3_ ?_ _)); refine blk_far ?_ NB385_416.out _; (with_reducible repeat (first | refine k1_ ?_ _ | refine k2_ ?_ | refine k3_ ?_ _)); exact BK385.out⟩, ⟨by (with_reducible repeat (first | refine k1_ ?_ _ | refine k2_ ?_ | refine k3_ ?_ _)); refine blk_far ?_ NB396_416.out _; (with_reducible repeat (first | refine k1_ ?_ _ | refine k2_ ?_ | refine k3_ ?_ _)); refine blk_far ?_ NB396_416.out _; (with_reducible repeat (first | refine k1_ ?_ _ | refine k2_ ?_ | refine k3_ ?_ _)); exact BK396.out⟩, ⟨by (with_reducible repeat (first | refine k1_ ?_ _ | refine k2_ ?_ | refine k3_ ?_ _)); refine blk_put (cs := #[.bool t421, .slice Ao33 t398.length co33]) ?_ 1 _ rfl; (with_reducible repeat (first | refine k1_ ?_ _ | refine k2_ ?_ | refine k3_ ?_ _)); refine blk_put (cs := #[.bool t397, .slice Ao33 t398.length co33]) ?_ 0 _ rfl; (with_reducible repeat (first | refine k1_ ?_ _ | refine k2_ ?_ | refine k3_ ?_ _)); exact BK416.out⟩, ⟨by repeat (first | (with_reducible first | exact HB.out | apply b1_ | apply b2_ | apply b3_ | refine b4_ ?_ GE384.out | refine b4_ ?_ GE385.out | refine b4_ ?_ GE396.out | refine b4_ ?_ GE401.out | refine b4_ ?_ GE416.out) | exact HB.out)⟩⟩
      ·
       rw [if_neg c35] at H
       have c35b0 : decide (t402 < 0) = false := d3_ c35
       clear c35
       replace H := Option.bind_eq_some_iff.mp H
       obtain ⟨⟨t403, t406⟩, A830, H⟩ := H
       replace H : (some (t403, t406)) = some (r1, r2) := H
       have A83 := a0_ A830
       clear A830
       simp only [Option.some.injEq, Prod.mk.injEq] at H
       obtain ⟨rfl, rfl⟩ := H
       have hnb84 := NB401_384.out
       have hnc84 := NB384_401.out
       have hnb85 := NB401_385.out
       have hnc85 := NB385_401.out
       have hnb86 := NB401_396.out
       have hnc86 := NB396_401.out
       have hcz87_0 : wr.cell? ⟨gb401, 0, none⟩ = some (.bool t397) := (blk_cell BK401.out 0).trans rfl
       have hcz87_1 : wr.cell? ⟨gb401, 1, none⟩ = some (.slice Ao33 t398.length co33) := (blk_cell BK401.out 1).trans rfl
       have hfz87_0 := blk_frozen BK401.out 0
       have hfz87_1 := blk_frozen BK401.out 1
       have hnb88 := NB385_384.out
       have hnc88 := NB384_385.out
       have hnb89 := NB385_396.out
       have hnc89 := NB396_385.out
       have hcz90_0 : wr.cell? ⟨gb385, 0, none⟩ = some (.bool a2_0) := (blk_cell BK385.out 0).trans rfl
       have hcz90_1 : wr.cell? ⟨gb385, 1, none⟩ = some (.slice A2_1 l2_1.length c2_1) := (blk_cell BK385.out 1).trans rfl
       have hfz90_0 := blk_frozen BK385.out 0
       have hfz90_1 := blk_frozen BK385.out 1
       go_wp2_with (first | ((with_reducible refine gate_callee (f := 21) rfl ?_); refine goesL_ (some 25) rfl rfl Try.func21 (by kernel_rfl) rfl #[.agg #[.bool t397, .slice Ao33 t398.length co33], .agg #[.bool a2_0, .slice A2_1 l2_1.length c2_1]] rfl (by (try simp only [List.map_toArray, List.map_cons, List.map_nil]); first | done | rfl | (simp only [List.length_drop, List.length_take]; rfl)) ?_; (with_reducible refine (spec_WideCmp.calls k2 t397 _ _ t398 a2_0 _ _ l2_1 t402 _ ?side1 ?side2 ?side3 ?side4 A34.out).mono ?_); (case side1 => repeat (first | exact (Kd.V_reads' HO_402001.out).2.2 | (with_reducible refine Kd.C_alloc ?_ _) | (with_reducible refine Kd.C_drewN ?_ _) | (with_reducible refine Kd.C_drew ?_))); (case side2 => exact (Kd.V_reads' HO_402001.out).2.1); (case side3 => repeat (first | exact (Kd.C_below HR2_1.out HB.out) | (with_reducible refine Kd.C_alloc ?_ _) | (with_reducible refine Kd.C_drewN ?_ _) | (with_reducible refine Kd.C_drew ?_))); (case side4 => exact HC2_1.out); rintro e w91 ⟨rfl, hb⟩; refine ⟨_, rfl, ?_⟩; have n0_ := a0_ (Kd.V_below (by (with_reducible repeat (first | apply v1_ | apply v2_ | apply v3_)); exact HO_397001.out) hb); have n1_ := a0_ (Kd.V_below (by (with_reducible repeat (first | apply v1_ | apply v2_ | apply v3_)); exact HO_402001.out) hb); have n2_ := a0_ (blk_below (g := gb384) (o := .cells #[.bool a1_0, .slice A1_1 l1_1.length c1_1] 29 (0, 0)) (by (with_reducible repeat (first | refine k1_ ?_ _ | refine k2_ ?_ | refine k3_ ?_ _)); exact BK384.out) hb); have n3_ := a0_ (blk_below (g := gb385) (o := .cells #[.bool a2_0, .slice A2_1 l2_1.length c2_1] 29 (0, 0)) (by (with_reducible repeat (first | refine k1_ ?_ _ | refine k2_ ?_ | refine k3_ ?_ _)); exact BK385.out) hb); have n4_ := a0_ (blk_below (g := gb396) (o := .cells #[.bool x397000_2, u397001] 29 (0, 0)) (by (with_reducible repeat (first | refine k1_ ?_ _ | refine k2_ ?_ | refine k3_ ?_ _)); exact BK396.out) hb); have n5_ := a0_ (blk_below (g := gb401) (o := .cells #[.bool t397, .slice Ao33 t398.length co33] 29 (0, 0)) (by (with_reducible repeat (first | refine k1_ ?_ _ | refine k2_ ?_ | refine k3_ ?_ _)); exact BK401.out) hb); have n6_ := a0_ (below_step (by repeat (first | (with_reducible first | exact HB.out | apply b1_ | apply b2_ | apply b3_ | refine b4_ ?_ GE384.out | refine b4_ ?_ GE385.out | refine b4_ ?_ GE396.out | refine b4_ ?_ GE401.out) | exact HB.out)) hb); clear HO_397001; clear HO_402001; clear BK384; clear BK385; clear BK396; clear BK401; clear HB; have HO_397001 := n0_; have HO_402001 := n1_; have BK384 := n2_; have BK385 := n3_; have BK396 := n4_; have BK401 := n5_; have HB := n6_; clear n0_ n1_ n2_ n3_ n4_ n5_ n6_; (try clear hb); (try clear hb2); (try clear hk); (try clear hi); have hnb92 := NB396_384.out; have hnc92 := NB384_396.out; have hcz93_0 : w91.cell? ⟨gb396, 0, none⟩ = some (.bool x397000_2) := (blk_cell BK396.out 0).trans rfl; have hcz93_1 : w91.cell? ⟨gb396, 1, none⟩ = some (u397001) := (blk_cell BK396.out 1).trans rfl; have hfz93_0 := blk_frozen BK396.out 0; have hfz93_1 := blk_frozen BK396.out 1; obtain ⟨Ao94, co94, eo94⟩ := Kd.V_slice HO_397001.out; subst eo94) | ((with_reducible refine gate_callee (f := 12) rfl ?_); refine goesL_ (some 49) rfl rfl Try.func12 (by kernel_rfl) rfl #[.int .i64 a0, .agg #[.bool x397000_2, .slice Ao94 x397001_2.length co94]] rfl (by (try simp only [List.map_toArray, List.map_cons, List.map_nil]); first | done | rfl | (simp only [List.length_drop, List.length_take]; rfl)) ?_; (with_reducible refine (laws_wrapped.calls k2 a0 x397000_2 _ _ x397001_2 t403 t406 _ ?side1 ?side2 A83.out).mono ?_); (case side1 => repeat (first | exact (Kd.V_reads' HO_397001.out).2.2 | (with_reducible refine Kd.C_alloc ?_ _) | (with_reducible refine Kd.C_drewN ?_ _) | (with_reducible refine Kd.C_drew ?_))); (case side2 => exact (Kd.V_reads' HO_397001.out).2.1); rintro e w95 ⟨v404, rfl, ho0, hb⟩; refine ⟨_, rfl, ?_⟩; have n0_ := a0_ (Kd.V_elder' (by (with_reducible repeat (first | apply v1_ | apply v2_ | apply v3_)); exact HO_397001.out) (Kd.R_base ho0) hb); have n1_ := a0_ (Kd.V_elder' (by (with_reducible repeat (first | apply v1_ | apply v2_ | apply v3_)); exact HO_402001.out) (Kd.R_base ho0) hb); have n2_ := a0_ (Kd.R_lower ho0 (below_size (by repeat (first | (with_reducible first | exact HB.out | apply b1_ | apply b2_ | apply b3_ | refine b4_ ?_ GE384.out | refine b4_ ?_ GE385.out | refine b4_ ?_ GE396.out | refine b4_ ?_ GE401.out) | exact HB.out)))); have n3_ := a0_ (blk_below (g := gb384) (o := .cells #[.bool a1_0, .slice A1_1 l1_1.length c1_1] 29 (0, 0)) (by (with_reducible repeat (first | refine k1_ ?_ _ | refine k2_ ?_ | refine k3_ ?_ _)); exact BK384.out) hb); have n4_ := a0_ (blk_below (g := gb385) (o := .cells #[.bool a2_0, .slice A2_1 l2_1.length c2_1] 29 (0, 0)) (by (with_reducible repeat (first | refine k1_ ?_ _ | refine k2_ ?_ | refine k3_ ?_ _)); exact BK385.out) hb); have n5_ := a0_ (blk_below (g := gb396) (o := .cells #[.bool x397000_2, .slice Ao94 x397001_2.length co94] 29 (0, 0)) (by (with_reducible repeat (first | refine k1_ ?_ _ | refine k2_ ?_ | refine k3_ ?_ _)); exact BK396.out) hb); have n6_ := a0_ (blk_below (g := gb401) (o := .cells #[.bool t397, .slice Ao33 t398.length co33] 29 (0, 0)) (by (with_reducible repeat (first | refine k1_ ?_ _ | refine k2_ ?_ | refine k3_ ?_ _)); exact BK401.out) hb); have n7_ := a0_ (below_step (by repeat (first | (with_reducible first | exact HB.out | apply b1_ | apply b2_ | apply b3_ | refine b4_ ?_ GE384.out | refine b4_ ?_ GE385.out | refine b4_ ?_ GE396.out | refine b4_ ?_ GE401.out) | exact HB.out)) hb); clear HO_397001; clear HO_402001; clear BK384; clear BK385; clear BK396; clear BK401; clear HB; have HO_397001 := n0_; have HO_402001 := n1_; have HO405 := n2_; have BK384 := n3_; have BK385 := n4_; have BK396 := n5_; have BK401 := n6_; have HB := n7_; clear n0_ n1_ n2_ n3_ n4_ n5_ n6_ n7_; (try clear hb); (try clear hb2); (try clear hk); (try clear hi); (try clear ho0)))
       go_ret2
       exact ⟨_, by first | rfl | (simp [e1_, e2_] <;> rfl) | (simp [*, e1_, e2_] <;> rfl), by (with_reducible repeat (first | apply r1_ | apply r2_ | apply r3_)); exact HO405.out, by repeat (first | (with_reducible first | exact HB.out | apply b1_ | apply b2_ | apply b3_ | refine b4_ ?_ GE384.out | refine b4_ ?_ GE385.out | refine b4_ ?_ GE396.out | refine b4_ ?_ GE401.out) | exact HB.out)⟩

/-! ### laws_FnDecPow: function 4 -/
mutual
def laws_FnDecPow.j0 : Nat → Int → List Int → List Int → Bool → Option (Bool)
 | 0, _, _, _, _ => none
 | k + 1, x0, x1, x2, x22 => if x22 = true then (some true) else ((impl_DecPow.f 64 (([2] : List Int)) (([3] : List Int))).bind fun bt431 => (if bt431.2 = true then ((laws_sameWords.f k bt431.1 (([8] : List Int))).bind fun t438 => (laws_FnDecPow.j1 k x0 x1 x2 t438)) else (laws_FnDecPow.j1 k x0 x1 x2 false)))
def laws_FnDecPow.j1 : Nat → Int → List Int → List Int → Bool → Option (Bool)
 | 0, _, _, _, _ => none
 | k + 1, x0, x1, x2, x9 => (laws_decimal.f k x0 x1).bind fun bt439 => ((laws_decimal.f k x0 x2).bind fun bt445 => (if bt439.2.2 = true then (if bt445.2.2 = true then (laws_FnDecPow.j2 k x0 x1 x2 x9 (decide (x0 > 64)) bt439.1 bt439.2.1 bt445.1 bt445.2.1) else (laws_FnDecPow.j2 k x0 x1 x2 x9 true bt439.1 bt439.2.1 bt445.1 bt445.2.1)) else (laws_FnDecPow.j2 k x0 x1 x2 x9 true bt439.1 bt439.2.1 bt445.1 bt445.2.1)))
def laws_FnDecPow.j2 : Nat → Int → List Int → List Int → Bool → Bool → Bool → List Int → Bool → List Int → Option (Bool)
 | 0, _, _, _, _, _, _, _, _, _ => none
 | k + 1, x0, x1, x2, x9, x56, x445000, x445001, x451000, x451001 => if x56 = true then (some x9) else ((laws_power.f k x0 x445000 x445001 x451000 x451001).bind fun bt451 => (if bt451.2 = true then ((impl_DecPow.f x0 x1 x2).bind fun bt455 => (if bt455.2 = true then ((laws_sameWords.f k bt455.1 bt451.1).bind fun t459 => (if t459 = true then (some x9) else (some false))) else (some false))) else (some x9)))
end
def laws_FnDecPow.f (k : Nat) (a0 : Int) (l1 : List Int) (l2 : List Int) : Option (Bool) := if (l1.length : Int) > 2147483647 then (laws_FnDecPow.j0 k a0 l1 l2 true) else (laws_FnDecPow.j0 k a0 l1 l2 (decide ((l2.length : Int) > 2147483647)))
set_option maxHeartbeats 8000000 in
set_option maxRecDepth 100000 in
theorem laws_FnDecPow.calls (k : Nat) (a0 : Int) (A1 : Option Addr) (c1 : Nat) (l1 : List Int) (A2 : Option Addr) (c2 : Nat) (l2 : List Int) (r : Bool) (w : World) (hr1 : Kd.C (Kd.int .u64) w A1 l1.length l1) (hc1 : l1.length ≤ c1) (hr2 : Kd.C (Kd.int .u64) w A2 l2.length l2) (hc2 : l2.length ≤ c2) (h : laws_FnDecPow.f k a0 l1 l2 = some r) :
  Calls Try.prog 4 #[.int .i64 a0, .slice A1 l1.length c1, .slice A2 l2.length c2] w fun e w' => e = .returned (.bool r) ∧ Below w.heap.size w w' := by
 have hu29 := Try.underlying29
 have HR1 := a0_ hr1
 have HC1 := a0_ hc1
 clear hr1 hc1
 have HR2 := a0_ hr2
 have HC2 := a0_ hc2
 clear hr2 hc2
 have HB := a0_ (Below.refl w.heap.size w)
 have H : (if (l1.length : Int) > 2147483647 then (laws_FnDecPow.j0 k a0 l1 l2 true) else (laws_FnDecPow.j0 k a0 l1 l2 (decide ((l2.length : Int) > 2147483647)))) = some r := h
 clear h
 have HC4 := a0_ H
 clear H
 go_enter Try.func4, Try.ntmps4
 go_upto_region 1 with (fail)
 go_cut [22] (fun v22 wc => ∃ (kq : Nat) (x22_3 : Bool), v22 = .bool x22_3 ∧ Aside0 (laws_FnDecPow.j0 kq a0 l1 l2 x22_3 = some r) ∧ Aside0 (kq ≤ k) ∧ Aside0 (Below w.heap.size w wc))
 case first =>
  have H := HC4.out
  clear HC4
  by_cases c5 : (l1.length : Int) > 2147483647
  ·
   rw [if_pos c5] at H
   have c5b0 : decide (2147483647 < (l1.length : Int)) = true := d2_ c5
   have c5b1 : decide (2147483647 < l1.length) = true := d2_ (by omega)
   clear c5
   (first | rw [c5b0] | (simp only [i64_w, i32_w]; rw [c5b0]) | skip)
   have H' := a0_ H
   clear H
   go_wp2
   go_meet
   case rel => exact ⟨_, (true), (by first | rfl | (simp; done) | (simp [*]; done)), H', ⟨by first | omega | exact Nat.le_refl _⟩, ⟨by repeat (first | (with_reducible first | exact HB.out | apply b1_ | apply b2_ | apply b3_) | exact HB.out)⟩⟩
  ·
   rw [if_neg c5] at H
   have c5b0 : decide (2147483647 < (l1.length : Int)) = false := d3_ c5
   have c5b1 : decide (2147483647 < l1.length) = false := d3_ (by omega)
   clear c5
   (first | rw [c5b0] | (simp only [i64_w, i32_w]; rw [c5b0]) | skip)
   have H' := a0_ H
   clear H
   go_wp2
   go_meet
   case rel => exact ⟨_, (decide ((l2.length : Int) > 2147483647)), (by first | rfl | (simp; done) | (simp [*]; done)), H', ⟨by first | omega | exact Nat.le_refl _⟩, ⟨by repeat (first | (with_reducible first | exact HB.out | apply b1_ | apply b2_ | apply b3_) | exact HB.out)⟩⟩
 case rest =>
  clear HC4
  try clear c1
  try clear c2
  try clear p2
  try clear c4
  try clear c5
  try clear c5b0
  try clear c5b1
  obtain ⟨kq, x22_3, rfl, HA, HJ3, HB⟩ := hcut
  cases kq with
  | zero => exact absurd HA.out (by simp [laws_FnDecPow.j0])
  | succ kj3 =>
   have H := HA.out
   clear HA
   simp only [laws_FnDecPow.j0] at H
   by_cases c6 : x22_3 = true
   ·
    subst c6
    have H1 : (some true) = some r := by rw [if_pos rfl] at H; exact H
    clear H
    have H := H1
    clear H1
    obtain rfl := o1_ H
    go_wp2
    go_ret
    exact ⟨by first | rfl | (simp [e1_, e2_] <;> rfl) | (simp [*, e1_, e2_] <;> rfl), by repeat (first | (with_reducible first | exact HB.out | apply b1_ | apply b2_ | apply b3_) | exact HB.out)⟩
   ·
    replace c6 := Bool.eq_false_iff.mpr c6
    subst c6
    have H1 : ((impl_DecPow.f 64 (([2] : List Int)) (([3] : List Int))).bind fun bt431 => (if bt431.2 = true then ((laws_sameWords.f kj3 bt431.1 (([8] : List Int))).bind fun t438 => (laws_FnDecPow.j1 kj3 a0 l1 l2 t438)) else (laws_FnDecPow.j1 kj3 a0 l1 l2 false))) = some r := by rw [if_neg (show ¬ (false = true) by decide)] at H; exact H
    clear H
    have H := H1
    clear H1
    obtain ⟨y425, hy425⟩ : ∃ y_ : List Int, y_ = (([2] : List Int)) := ⟨_, rfl⟩
    replace H : ((impl_DecPow.f 64 y425 (([3] : List Int))).bind fun bt431 => (if bt431.2 = true then ((laws_sameWords.f kj3 bt431.1 (([8] : List Int))).bind fun t438 => (laws_FnDecPow.j1 kj3 a0 l1 l2 t438)) else (laws_FnDecPow.j1 kj3 a0 l1 l2 false))) = some r := by first | (rw [hy425]; with_reducible exact H) | (have H2_ := (o2_ _ _).symm.trans H; rw [hy425]; with_reducible exact H2_) | (have H2_ := (o2_ _ _).symm.trans H; with_reducible exact H2_) | with_reducible exact H | (rw [hy425]; exact H) | exact H
    have Ny425 := a0_ hy425
    clear hy425
    obtain ⟨y428, hy428⟩ : ∃ y_ : List Int, y_ = (([3] : List Int)) := ⟨_, rfl⟩
    replace H : ((impl_DecPow.f 64 y425 y428).bind fun bt431 => (if bt431.2 = true then ((laws_sameWords.f kj3 bt431.1 (([8] : List Int))).bind fun t438 => (laws_FnDecPow.j1 kj3 a0 l1 l2 t438)) else (laws_FnDecPow.j1 kj3 a0 l1 l2 false))) = some r := by first | (rw [hy428]; with_reducible exact H) | (have H2_ := (o2_ _ _).symm.trans H; rw [hy428]; with_reducible exact H2_) | (have H2_ := (o2_ _ _).symm.trans H; with_reducible exact H2_) | with_reducible exact H | (rw [hy428]; exact H) | exact H
    have Ny428 := a0_ hy428
    clear hy428
    replace H := Option.bind_eq_some_iff.mp H
    obtain ⟨⟨t431, t432⟩, A70, H⟩ := H
    replace H : (if t432 = true then ((laws_sameWords.f kj3 t431 (([8] : List Int))).bind fun t438 => (laws_FnDecPow.j1 kj3 a0 l1 l2 t438)) else (laws_FnDecPow.j1 kj3 a0 l1 l2 false)) = some r := H
    have A7 := a0_ A70
    clear A70
    have HC8 := a0_ H
    clear H
    go_upto_region 4 with (first | ((with_reducible refine gate_dst (N := 24) rfl ?_); (try (refine gate_guard (by rfl) ?_; dsimp only)); refine Kd.R_lit (Kd.int .u64) _ 25 ?hg (N := 24) ?hd (xs := ([2] : List Int)) (inner := [.int .u64 2]) (ok := fun _ => True) (okp := fun _ => True) ?hr ?hp (fun _ hk => hk) trivial (Below.refl _ _) (Nat.le_refl _) (by simp) ?_; (case hd => rfl); (case hg => rfl); (case hr => first | (go_simp; done) | (go_simp; rfl)); (case hp => exact (Reps.one (show Kd.M (Kd.int .u64) _ _ _ 2 [.int .u64 2] from rfl) (Reps.none _ _))); intro v426 w9 ho10 hb hg_ hnew_; clear hg_ hnew_; (first | rw [← Ny425.out] at ho10 | (simp only [Int.reduceToNat] at ho10; rw [← Ny425.out] at ho10)); have n0_ := a0_ (Kd.R_lower ho10 (below_size (by repeat (first | (with_reducible first | exact HB.out | apply b1_ | apply b2_ | apply b3_) | exact HB.out)))); have n1_ := a0_ (below_step (by repeat (first | (with_reducible first | exact HB.out | apply b1_ | apply b2_ | apply b3_) | exact HB.out)) hb); clear HB; have HO427 := n0_; have HB := n1_; clear n0_ n1_; clear hb ho10) | ((with_reducible refine gate_dst (N := 25) rfl ?_); (try (refine gate_guard (by rfl) ?_; dsimp only)); refine Kd.R_lit (Kd.int .u64) _ 25 ?hg (N := 25) ?hd (xs := ([3] : List Int)) (inner := [.int .u64 3]) (ok := fun _ => True) (okp := fun _ => True) ?hr ?hp (fun _ hk => hk) trivial (Below.refl _ _) (Nat.le_refl _) (by simp) ?_; (case hd => rfl); (case hg => rfl); (case hr => first | (go_simp; done) | (go_simp; rfl)); (case hp => exact (Reps.one (show Kd.M (Kd.int .u64) _ _ _ 3 [.int .u64 3] from rfl) (Reps.none _ _))); intro v429 w11 ho12 hb hg_ hnew_; clear hg_ hnew_; (first | rw [← Ny428.out] at ho12 | (simp only [Int.reduceToNat] at ho12; rw [← Ny428.out] at ho12)); have n0_ := a0_ (Kd.R_elder' (by (with_reducible repeat (first | apply r1_ | apply r2_ | apply r3_)); exact HO427.out) (Kd.R_base ho12) hb); have n1_ := a0_ (Kd.R_lower (Kd.R_new' ho12 (Kd.R_lt (by (with_reducible repeat (first | apply r1_ | apply r2_ | apply r3_)); exact HO427.out))) (below_size (by repeat (first | (with_reducible first | exact HB.out | apply b1_ | apply b2_ | apply b3_) | exact HB.out)))); have n2_ := a0_ (below_step (by repeat (first | (with_reducible first | exact HB.out | apply b1_ | apply b2_ | apply b3_) | exact HB.out)) hb); clear HO427; clear HB; have HO427 := n0_; have HO430 := n1_; have HB := n2_; clear n0_ n1_ n2_; clear hb ho12; obtain ⟨Ao13, co13, eo13⟩ := Kd.R_slice HO427.out; subst eo13; obtain ⟨Ao14, co14, eo14⟩ := Kd.R_slice HO430.out; subst eo14) | ((with_reducible refine gate_callee (f := 13) rfl ?_); refine goesL_ (some 26) rfl rfl Try.func13 (by kernel_rfl) rfl #[.int .i64 64, .slice Ao13 y425.length co13, .slice Ao14 y428.length co14] rfl (by (try simp only [List.map_toArray, List.map_cons, List.map_nil]); first | done | rfl | (simp only [List.length_drop, List.length_take]; rfl)) ?_; (with_reducible refine (impl_DecPow.calls 64 _ _ y425 _ _ y428 t431 t432 _ ?side1 ?side2 ?side3 ?side4 A7.out).mono ?_); (case side1 => repeat (first | exact (Kd.R_reads' HO427.out).2.2 | (with_reducible refine Kd.C_alloc ?_ _) | (with_reducible refine Kd.C_drewN ?_ _) | (with_reducible refine Kd.C_drew ?_))); (case side2 => exact (Kd.R_reads' HO427.out).2.1); (case side3 => repeat (first | exact (Kd.R_reads' HO430.out).2.2 | (with_reducible refine Kd.C_alloc ?_ _) | (with_reducible refine Kd.C_drewN ?_ _) | (with_reducible refine Kd.C_drew ?_))); (case side4 => exact (Kd.R_reads' HO430.out).2.1); rintro e w15 ⟨v433, rfl, ho0, hb⟩; refine ⟨_, rfl, ?_⟩; have n0_ := a0_ (Kd.R_elder' (by (with_reducible repeat (first | apply r1_ | apply r2_ | apply r3_)); exact HO427.out) (Kd.R_base ho0) hb); have n1_ := a0_ (Kd.R_elder' (by (with_reducible repeat (first | apply r1_ | apply r2_ | apply r3_)); exact HO430.out) (Kd.R_base ho0) hb); have n2_ := a0_ (Kd.R_lower (Kd.R_new' (Kd.R_new' ho0 (Kd.R_lt (by (with_reducible repeat (first | apply r1_ | apply r2_ | apply r3_)); exact HO427.out))) (Kd.R_lt (by (with_reducible repeat (first | apply r1_ | apply r2_ | apply r3_)); exact HO430.out))) (below_size (by repeat (first | (with_reducible first | exact HB.out | apply b1_ | apply b2_ | apply b3_) | exact HB.out)))); have n3_ := a0_ (below_step (by repeat (first | (with_reducible first | exact HB.out | apply b1_ | apply b2_ | apply b3_) | exact HB.out)) hb); clear HO427; clear HO430; clear HB; have HO427 := n0_; have HO430 := n1_; have HO434 := n2_; have HB := n3_; clear n0_ n1_ n2_ n3_; (try clear hb); (try clear hb2); (try clear hk); (try clear hi); (try clear ho0)))
    (try simp only [Act.put, s1_, s2_, s3_])
    go_cut [9] (fun v9 wc => ∃ (kq : Nat) (x9_7 : Bool), v9 = .bool x9_7 ∧ Aside0 (laws_FnDecPow.j1 kq a0 l1 l2 x9_7 = some r) ∧ Aside0 (kq ≤ kj3) ∧ Aside0 (Below w.heap.size w wc))
    case first =>
     have H := HC8.out
     clear HC8
     by_cases c16 : t432 = true
     ·
      subst c16
      have H1 : ((laws_sameWords.f kj3 t431 (([8] : List Int))).bind fun t438 => (laws_FnDecPow.j1 kj3 a0 l1 l2 t438)) = some r := by rw [if_pos rfl] at H; exact H
      clear H
      have H := H1
      clear H1
      obtain ⟨y435, hy435⟩ : ∃ y_ : List Int, y_ = (([8] : List Int)) := ⟨_, rfl⟩
      replace H : ((laws_sameWords.f kj3 t431 y435).bind fun t438 => (laws_FnDecPow.j1 kj3 a0 l1 l2 t438)) = some r := by first | (rw [hy435]; with_reducible exact H) | (have H2_ := (o2_ _ _).symm.trans H; rw [hy435]; with_reducible exact H2_) | (have H2_ := (o2_ _ _).symm.trans H; with_reducible exact H2_) | with_reducible exact H | (rw [hy435]; exact H) | exact H
      have Ny435 := a0_ hy435
      clear hy435
      replace H := Option.bind_eq_some_iff.mp H
      obtain ⟨t438, A170, H⟩ := H
      replace H : (laws_FnDecPow.j1 kj3 a0 l1 l2 t438) = some r := H
      have A17 := a0_ A170
      clear A170
      have H' := a0_ H
      clear H
      go_wp2_with (first | ((with_reducible refine gate_dst (N := 32) rfl ?_); (try (refine gate_guard (by rfl) ?_; dsimp only)); refine Kd.R_lit (Kd.int .u64) _ 25 ?hg (N := 32) ?hd (xs := ([8] : List Int)) (inner := [.int .u64 8]) (ok := fun _ => True) (okp := fun _ => True) ?hr ?hp (fun _ hk => hk) trivial (Below.refl _ _) (Nat.le_refl _) (by simp) ?_; (case hd => rfl); (case hg => rfl); (case hr => first | (go_simp; done) | (go_simp; rfl)); (case hp => exact (Reps.one (show Kd.M (Kd.int .u64) _ _ _ 8 [.int .u64 8] from rfl) (Reps.none _ _))); intro v436 w18 ho19 hb hg_ hnew_; clear hg_ hnew_; (first | rw [← Ny435.out] at ho19 | (simp only [Int.reduceToNat] at ho19; rw [← Ny435.out] at ho19)); have n0_ := a0_ (Kd.R_elder' (by (with_reducible repeat (first | apply r1_ | apply r2_ | apply r3_)); exact HO427.out) (Kd.R_base ho19) hb); have n1_ := a0_ (Kd.R_elder' (by (with_reducible repeat (first | apply r1_ | apply r2_ | apply r3_)); exact HO430.out) (Kd.R_base ho19) hb); have n2_ := a0_ (Kd.R_elder' (by (with_reducible repeat (first | apply r1_ | apply r2_ | apply r3_)); exact HO434.out) (Kd.R_base ho19) hb); have n3_ := a0_ (Kd.R_lower (Kd.R_new' (Kd.R_new' (Kd.R_new' ho19 (Kd.R_lt (by (with_reducible repeat (first | apply r1_ | apply r2_ | apply r3_)); exact HO427.out))) (Kd.R_lt (by (with_reducible repeat (first | apply r1_ | apply r2_ | apply r3_)); exact HO430.out))) (Kd.R_lt (by (with_reducible repeat (first | apply r1_ | apply r2_ | apply r3_)); exact HO434.out))) (below_size (by repeat (first | (with_reducible first | exact HB.out | apply b1_ | apply b2_ | apply b3_) | exact HB.out)))); have n4_ := a0_ (below_step (by repeat (first | (with_reducible first | exact HB.out | apply b1_ | apply b2_ | apply b3_) | exact HB.out)) hb); clear HO427; clear HO430; clear HO434; clear HB; have HO427 := n0_; have HO430 := n1_; have HO434 := n2_; have HO437 := n3_; have HB := n4_; clear n0_ n1_ n2_ n3_ n4_; clear hb ho19; obtain ⟨Ao20, co20, eo20⟩ := Kd.R_slice HO434.out; subst eo20; obtain ⟨Ao21, co21, eo21⟩ := Kd.R_slice HO437.out; subst eo21) | (go_at_call 8; (with_reducible refine (laws_sameWords.calls kj3 _ _ t431 _ _ y435 t438 _ ?side1 ?side2 ?side3 ?side4 A17.out).mono ?_); (case side1 => repeat (first | exact (Kd.R_reads' HO434.out).2.2 | (with_reducible refine Kd.C_alloc ?_ _) | (with_reducible refine Kd.C_drewN ?_ _) | (with_reducible refine Kd.C_drew ?_))); (case side2 => exact (Kd.R_reads' HO434.out).2.1); (case side3 => repeat (first | exact (Kd.R_reads' HO437.out).2.2 | (with_reducible refine Kd.C_alloc ?_ _) | (with_reducible refine Kd.C_drewN ?_ _) | (with_reducible refine Kd.C_drew ?_))); (case side4 => exact (Kd.R_reads' HO437.out).2.1); rintro e w' ⟨rfl, ⟨nd, rfl⟩⟩))
      go_meet
      case rel => exact ⟨_, (t438), (by first | rfl | (simp; done) | (simp [*]; done)), H', ⟨by have := HJ3.out; first | omega | exact Nat.le_refl _⟩, ⟨by repeat (first | (with_reducible first | exact HB.out | apply b1_ | apply b2_ | apply b3_) | exact HB.out)⟩⟩
     ·
      replace c16 := Bool.eq_false_iff.mpr c16
      subst c16
      have H1 : (laws_FnDecPow.j1 kj3 a0 l1 l2 false) = some r := by rw [if_neg (show ¬ (false = true) by decide)] at H; exact H
      clear H
      have H := H1
      clear H1
      have H' := a0_ H
      clear H
      go_wp2
      go_meet
      case rel => exact ⟨_, (false), (by first | rfl | (simp; done) | (simp [*]; done)), H', ⟨by have := HJ3.out; first | omega | exact Nat.le_refl _⟩, ⟨by repeat (first | (with_reducible first | exact HB.out | apply b1_ | apply b2_ | apply b3_) | exact HB.out)⟩⟩
    case rest =>
     clear HC8
     try clear c1
     try clear c2
     try clear p2
     try clear c4
     try clear c5
     try clear c5b0
     try clear c5b1
     try clear c6
     try clear c13
     try clear c16
     try clear p2
     obtain ⟨kq, x9_7, rfl, HA, HJ7, HB⟩ := hcut
     cases kq with
     | zero => exact absurd HA.out (by simp [laws_FnDecPow.j1])
     | succ kj7 =>
      have H := HA.out
      clear HA
      simp only [laws_FnDecPow.j1] at H
      replace H := Option.bind_eq_some_iff.mp H
      obtain ⟨⟨t439, t440, t443⟩, A220, H⟩ := H
      replace H : ((laws_decimal.f kj7 a0 l2).bind fun bt445 => (if t443 = true then (if bt445.2.2 = true then (laws_FnDecPow.j2 kj7 a0 l1 l2 x9_7 (decide (a0 > 64)) t439 t440 bt445.1 bt445.2.1) else (laws_FnDecPow.j2 kj7 a0 l1 l2 x9_7 true t439 t440 bt445.1 bt445.2.1)) else (laws_FnDecPow.j2 kj7 a0 l1 l2 x9_7 true t439 t440 bt445.1 bt445.2.1))) = some r := H
      have A22 := a0_ A220
      clear A220
      replace H := Option.bind_eq_some_iff.mp H
      obtain ⟨⟨t445, t446, t449⟩, A230, H⟩ := H
      replace H : (if t443 = true then (if t449 = true then (laws_FnDecPow.j2 kj7 a0 l1 l2 x9_7 (decide (a0 > 64)) t439 t440 t445 t446) else (laws_FnDecPow.j2 kj7 a0 l1 l2 x9_7 true t439 t440 t445 t446)) else (laws_FnDecPow.j2 kj7 a0 l1 l2 x9_7 true t439 t440 t445 t446)) = some r := H
      have A23 := a0_ A230
      clear A230
      have HC24 := a0_ H
      clear H
      go_upto_region 7 with (first | ((with_reducible refine gate_callee (f := 9) rfl ?_); refine goesL_ (some 38) rfl rfl Try.func9 (by kernel_rfl) rfl #[.int .i64 a0, .slice A1 l1.length c1] rfl (by (try simp only [List.map_toArray, List.map_cons, List.map_nil]); first | done | rfl | (simp only [List.length_drop, List.length_take]; rfl)) ?_; (with_reducible refine (laws_decimal.calls kj7 a0 _ _ l1 t439 t440 t443 _ ?side1 ?side2 A22.out).mono ?_); (case side1 => repeat (first | exact (Kd.C_below HR1.out HB.out) | (with_reducible refine Kd.C_alloc ?_ _) | (with_reducible refine Kd.C_drewN ?_ _) | (with_reducible refine Kd.C_drew ?_))); (case side2 => exact HC1.out); rintro e w25 ⟨v441, rfl, ho0, hb⟩; refine ⟨_, rfl, ?_⟩; have n0_ := a0_ (Kd.V_lower (v4_ (ok' := fun k_ => True) ho0 (fun k_ hk_ => trivial)) (below_size (by repeat (first | (with_reducible first | exact HB.out | apply b1_ | apply b2_ | apply b3_) | exact HB.out)))); have n1_ := a0_ (below_step (by repeat (first | (with_reducible first | exact HB.out | apply b1_ | apply b2_ | apply b3_) | exact HB.out)) hb); clear HB; have HO442 := n0_; have HB := n1_; clear n0_ n1_; (try clear hb); (try clear hb2); (try clear hk); (try clear hi); (try clear ho0)) | ((with_reducible refine gate_dst (N := 10) rfl ?_); (try (refine gate_guard (by rfl) ?_; dsimp only)); refine box_event ?hg (N := 10) ?hd (cs := #[.bool false, .slice none 0 0]) (t := 29) ?hr ?_; (case hd => rfl); (case hg => rfl); (case hr => first | (go_simp; done) | (go_simp; rfl)); intro gb444 hg w26 hbox hb; have n0_ := a0_ (Kd.V_below (Kd.V_elderB (by (with_reducible repeat (first | apply v1_ | apply v2_ | apply v3_)); exact HO442.out) gb444 (Nat.le_of_eq hg.symm)) hb); have n1_ := a0_ (below_step (by repeat (first | (with_reducible first | exact HB.out | apply b1_ | apply b2_ | apply b3_) | exact HB.out)) hb); have n2_ := a0_ (hbox); have n3_ := a0_ ((by rw [hg]; exact (below_size (by repeat (first | (with_reducible first | exact HB.out | apply b1_ | apply b2_ | apply b3_) | exact HB.out))) : w.heap.size ≤ gb444)); have n4_ := a0_ ((by rw [hg]; exact (below_size (by repeat (first | (with_reducible first | exact HB.out | apply b1_ | apply b2_ | apply b3_) | exact HB.out))) : w.heap.size ≤ gb444)); clear HO442; clear HB; have HO442 := n0_; have HB := n1_; have BK444 := n2_; have GW444 := n3_; have GE444 := n4_; clear n0_ n1_ n2_ n3_ n4_; clear hb hbox hg; have hcz27_0 : w26.cell? ⟨gb444, 0, none⟩ = some (.bool false) := (blk_cell BK444.out 0).trans rfl; have hcz27_1 : w26.cell? ⟨gb444, 1, none⟩ = some (.slice none 0 0) := (blk_cell BK444.out 1).trans rfl; have hfz27_0 := blk_frozen BK444.out 0; have hfz27_1 := blk_frozen BK444.out 1; obtain ⟨Ao28, co28, eo28⟩ := Kd.V_slice HO442.out; subst eo28) | ((with_reducible refine gate_callee (f := 9) rfl ?_); refine goesL_ (some 44) rfl rfl Try.func9 (by kernel_rfl) rfl #[.int .i64 a0, .slice A2 l2.length c2] rfl (by (try simp only [List.map_toArray, List.map_cons, List.map_nil]); first | done | rfl | (simp only [List.length_drop, List.length_take]; rfl)) ?_; (with_reducible refine (laws_decimal.calls kj7 a0 _ _ l2 t445 t446 t449 _ ?side1 ?side2 A23.out).mono ?_); (case side1 => exact Kd.C_below HR2.out (by repeat (first | (with_reducible first | exact HB.out | apply b1_ | apply b2_ | apply b3_ | refine b4_ ?_ GE444.out) | exact HB.out))); (case side2 => exact HC2.out); rintro e w29 ⟨v447, rfl, ho0, hb⟩; refine ⟨_, rfl, ?_⟩; have n0_ := a0_ (Kd.V_below (by (with_reducible repeat (first | apply v1_ | apply v2_ | apply v3_)); exact (v4_ (v5_ (p := ⟨gb444, 1, none⟩) (v5_ (p := ⟨gb444, 0, none⟩) (v4_ HO442.out (fun k_ hk => (⟨hk, hk.2⟩ : _ ∧ k_ ≠ gb444))) (fun _ hk => hk.2) (.bool t439)) (fun _ hk => hk.2) (.slice Ao28 t440.length co28)) (fun _ h_ => h_.1))) hb); have n1_ := a0_ (Kd.V_lower (v4_ (ok' := fun k_ => k_ ≠ gb444) ho0 (fun k_ hk_ => (Kd.freshB (g := gb444) (o := .cells #[.bool t439, .slice Ao28 t440.length co28] 29 (0, 0)) (by (with_reducible repeat (first | refine k1_ ?_ _ | refine k2_ ?_ | refine k3_ ?_ _)); refine blk_put (cs := #[.bool t439, .slice none 0 0]) ?_ 1 _ rfl; (with_reducible repeat (first | refine k1_ ?_ _ | refine k2_ ?_ | refine k3_ ?_ _)); refine blk_put (cs := #[.bool false, .slice none 0 0]) ?_ 0 _ rfl; (with_reducible repeat (first | refine k1_ ?_ _ | refine k2_ ?_ | refine k3_ ?_ _)); exact BK444.out) k_ hk_))) (below_size (by repeat (first | (with_reducible first | exact HB.out | apply b1_ | apply b2_ | apply b3_ | refine b4_ ?_ GE444.out) | exact HB.out)))); have n2_ := a0_ (blk_below (g := gb444) (o := .cells #[.bool t439, .slice Ao28 t440.length co28] 29 (0, 0)) (by (with_reducible repeat (first | refine k1_ ?_ _ | refine k2_ ?_ | refine k3_ ?_ _)); refine blk_put (cs := #[.bool t439, .slice none 0 0]) ?_ 1 _ rfl; (with_reducible repeat (first | refine k1_ ?_ _ | refine k2_ ?_ | refine k3_ ?_ _)); refine blk_put (cs := #[.bool false, .slice none 0 0]) ?_ 0 _ rfl; (with_reducible repeat (first | refine k1_ ?_ _ | refine k2_ ?_ | refine k3_ ?_ _)); exact BK444.out) hb); have n3_ := a0_ (below_step (by repeat (first | (with_reducible first | exact HB.out | apply b1_ | apply b2_ | apply b3_ | refine b4_ ?_ GE444.out) | exact HB.out)) hb); clear HO442; clear BK444; clear HB; have HO442 := n0_; have HO448 := n1_; have BK444 := n2_; have HB := n3_; clear n0_ n1_ n2_ n3_; (try clear hb); (try clear hb2); (try clear hk); (try clear hi); (try clear ho0)) | ((with_reducible refine gate_dst (N := 12) rfl ?_); (try (refine gate_guard (by rfl) ?_; dsimp only)); refine box_event ?hg (N := 12) ?hd (cs := #[.bool false, .slice none 0 0]) (t := 29) ?hr ?_; (case hd => rfl); (case hg => rfl); (case hr => first | (go_simp; done) | (go_simp; rfl)); intro gb450 hg w30 hbox hb; have n0_ := a0_ (Kd.V_below (Kd.V_elderB (by (with_reducible repeat (first | apply v1_ | apply v2_ | apply v3_)); exact HO442.out) gb450 (Nat.le_of_eq hg.symm)) hb); have n1_ := a0_ (Kd.V_below (Kd.V_elderB (by (with_reducible repeat (first | apply v1_ | apply v2_ | apply v3_)); exact HO448.out) gb450 (Nat.le_of_eq hg.symm)) hb); have n2_ := a0_ (blk_below (g := gb444) (o := .cells #[.bool t439, .slice Ao28 t440.length co28] 29 (0, 0)) (by (with_reducible repeat (first | refine k1_ ?_ _ | refine k2_ ?_ | refine k3_ ?_ _)); exact BK444.out) hb); have n3_ := a0_ (below_step (by repeat (first | (with_reducible first | exact HB.out | apply b1_ | apply b2_ | apply b3_ | refine b4_ ?_ GE444.out) | exact HB.out)) hb); have n4_ := a0_ (hbox); have n5_ := a0_ ((by rw [hg]; exact (below_size (by repeat (first | (with_reducible first | exact HB.out | apply b1_ | apply b2_ | apply b3_ | refine b4_ ?_ GE444.out) | exact HB.out))) : w.heap.size ≤ gb450)); have n6_ := a0_ ((by rw [hg]; exact (below_size (by repeat (first | (with_reducible first | exact HB.out | apply b1_ | apply b2_ | apply b3_ | refine b4_ ?_ GE444.out) | exact HB.out))) : w.heap.size ≤ gb450)); have n7_ := a0_ ((by rw [hg]; exact Nat.ne_of_lt (blk_lt (g := gb444) (o := .cells #[.bool t439, .slice Ao28 t440.length co28] 29 (0, 0)) (by (with_reducible repeat (first | refine k1_ ?_ _ | refine k2_ ?_ | refine k3_ ?_ _)); exact BK444.out)) : gb444 ≠ gb450)); have n8_ := a0_ ((by rw [hg]; exact Nat.ne_of_gt (blk_lt (g := gb444) (o := .cells #[.bool t439, .slice Ao28 t440.length co28] 29 (0, 0)) (by (with_reducible repeat (first | refine k1_ ?_ _ | refine k2_ ?_ | refine k3_ ?_ _)); exact BK444.out)) : gb450 ≠ gb444)); clear HO442; clear HO448; clear BK444; clear HB; have HO442 := n0_; have HO448 := n1_; have BK444 := n2_; have HB := n3_; have BK450 := n4_; have GW450 := n5_; have GE450 := n6_; have NB444_450 := n7_; have NB450_444 := n8_; clear n0_ n1_ n2_ n3_ n4_ n5_ n6_ n7_ n8_; clear hb hbox hg; have hnb31 := NB450_444.out; have hnc31 := NB444_450.out; have hcz32_0 : w30.cell? ⟨gb450, 0, none⟩ = some (.bool false) := (blk_cell BK450.out 0).trans rfl; have hcz32_1 : w30.cell? ⟨gb450, 1, none⟩ = some (.slice none 0 0) := (blk_cell BK450.out 1).trans rfl; have hfz32_0 := blk_frozen BK450.out 0; have hfz32_1 := blk_frozen BK450.out 1; obtain ⟨Ao33, co33, eo33⟩ := Kd.V_slice HO448.out; subst eo33))
      (try simp only [Act.put, s1_, s2_, s3_])
      go_cut [56] (fun v56 wc => ∃ (kq : Nat) (x56_23 : Bool), v56 = .bool x56_23 ∧ Aside0 (laws_FnDecPow.j2 kq a0 l1 l2 x9_7 x56_23 t439 t440 t445 t446 = some r) ∧ Aside0 (kq ≤ kj7) ∧ Aside0 (Kd.V (Kd.int .u32) 96 wc w.heap.size (fun k_ => k_ ≠ gb444 ∧ k_ ≠ gb450) (.slice Ao28 t440.length co28) t440) ∧ Aside0 (Kd.V (Kd.int .u32) 96 wc w.heap.size (fun k_ => k_ ≠ gb444 ∧ k_ ≠ gb450) (.slice Ao33 t446.length co33) t446) ∧ Aside0 (wc.heap[gb444]? = some (.cells #[.bool t439, (.slice Ao28 t440.length co28)] 29 (0, 0))) ∧ Aside0 (wc.heap[gb450]? = some (.cells #[.bool t445, (.slice Ao33 t446.length co33)] 29 (0, 0))) ∧ Aside0 (Below w.heap.size w wc))
      case first =>
       have H := HC24.out
       clear HC24
       by_cases c34 : t443 = true
       ·
        subst c34
        have H1 : (if t449 = true then (laws_FnDecPow.j2 kj7 a0 l1 l2 x9_7 (decide (a0 > 64)) t439 t440 t445 t446) else (laws_FnDecPow.j2 kj7 a0 l1 l2 x9_7 true t439 t440 t445 t446)) = some r := by rw [if_pos rfl] at H; exact H
        clear H
        have H := H1
        clear H1
        by_cases c35 : t449 = true
        ·
         subst c35
         have H1 : (laws_FnDecPow.j2 kj7 a0 l1 l2 x9_7 (decide (a0 > 64)) t439 t440 t445 t446) = some r := by rw [if_pos rfl] at H; exact H
         clear H
         have H := H1
         clear H1
         have H' := a0_ H
         clear H
         go_wp2
         go_meet
         case rel => exact ⟨_, (decide (a0 > 64)), (by first | rfl | (simp; done) | (simp [*]; done)), H', ⟨by have := HJ3.out; have := HJ7.out; first | omega | exact Nat.le_refl _⟩, ⟨by (with_reducible repeat (first | apply v1_ | apply v2_ | apply v3_)); exact v4_ (v5_ (p := ⟨gb450, 1, none⟩) (v5_ (p := ⟨gb450, 0, none⟩) (v4_ HO442.out (fun k_ hk => (⟨hk, hk.2⟩ : _ ∧ k_ ≠ gb450))) (fun _ hk => hk.2) (.bool t445)) (fun _ hk => hk.2) (.slice Ao33 t446.length co33)) (fun _ hk => ⟨hk.1.1.2, hk.1.2⟩)⟩, ⟨by (with_reducible repeat (first | apply v1_ | apply v2_ | apply v3_)); exact v4_ (v5_ (p := ⟨gb450, 1, none⟩) (v5_ (p := ⟨gb450, 0, none⟩) (v4_ HO448.out (fun k_ hk => (⟨hk, hk.2⟩ : _ ∧ k_ ≠ gb450))) (fun _ hk => hk.2) (.bool t445)) (fun _ hk => hk.2) (.slice Ao33 t446.length co33)) (fun _ hk => ⟨hk.1.1, hk.1.2⟩)⟩, ⟨by (with_reducible repeat (first | refine k1_ ?_ _ | refine k2_ ?_ | refine k3_ ?_ _)); refine blk_far ?_ NB444_450.out _; (with_reducible repeat (first | refine k1_ ?_ _ | refine k2_ ?_ | refine k3_ ?_ _)); refine blk_far ?_ NB444_450.out _; (with_reducible repeat (first | refine k1_ ?_ _ | refine k2_ ?_ | refine k3_ ?_ _)); exact BK444.out⟩, ⟨by (with_reducible repeat (first | refine k1_ ?_ _ | refine k2_ ?_ | refine k3_ ?_ _)); refine blk_put (cs := #[.bool t445, .slice none 0 0]) ?_ 1 _ rfl; (with_reducible repeat (first | refine k1_ ?_ _ | refine k2_ ?_ | refine k3_ ?_ _)); refine blk_put (cs := #[.bool false, .slice none 0 0]) ?_ 0 _ rfl; (with_reducible repeat (first | refine k1_ ?_ _ | refine k2_ ?_ | refine k3_ ?_ _)); exact BK450.out⟩, ⟨by repeat (first | (with_reducible first | exact HB.out | apply b1_ | apply b2_ | apply b3_ | refine b4_ ?_ GE444.out | refine b4_ ?_ GE450.out) | exact HB.out)⟩⟩
        ·
         replace c35 := Bool.eq_false_iff.mpr c35
         subst c35
         have H1 : (laws_FnDecPow.j2 kj7 a0 l1 l2 x9_7 true t439 t440 t445 t446) = some r := by rw [if_neg (show ¬ (false = true) by decide)] at H; exact H
         clear H
         have H := H1
         clear H1
         have H' := a0_ H
         clear H
         go_wp2
         go_meet
         case rel => exact ⟨_, (true), (by first | rfl | (simp; done) | (simp [*]; done)), H', ⟨by have := HJ3.out; have := HJ7.out; first | omega | exact Nat.le_refl _⟩, ⟨by (with_reducible repeat (first | apply v1_ | apply v2_ | apply v3_)); exact v4_ (v5_ (p := ⟨gb450, 1, none⟩) (v5_ (p := ⟨gb450, 0, none⟩) (v4_ HO442.out (fun k_ hk => (⟨hk, hk.2⟩ : _ ∧ k_ ≠ gb450))) (fun _ hk => hk.2) (.bool t445)) (fun _ hk => hk.2) (.slice Ao33 t446.length co33)) (fun _ hk => ⟨hk.1.1.2, hk.1.2⟩)⟩, ⟨by (with_reducible repeat (first | apply v1_ | apply v2_ | apply v3_)); exact v4_ (v5_ (p := ⟨gb450, 1, none⟩) (v5_ (p := ⟨gb450, 0, none⟩) (v4_ HO448.out (fun k_ hk => (⟨hk, hk.2⟩ : _ ∧ k_ ≠ gb450))) (fun _ hk => hk.2) (.bool t445)) (fun _ hk => hk.2) (.slice Ao33 t446.length co33)) (fun _ hk => ⟨hk.1.1, hk.1.2⟩)⟩, ⟨by (with_reducible repeat (first | refine k1_ ?_ _ | refine k2_ ?_ | refine k3_ ?_ _)); refine blk_far ?_ NB444_450.out _; (with_reducible repeat (first | refine k1_ ?_ _ | refine k2_ ?_ | refine k3_ ?_ _)); refine blk_far ?_ NB444_450.out _; (with_reducible repeat (first | refine k1_ ?_ _ | refine k2_ ?_ | refine k3_ ?_ _)); exact BK444.out⟩, ⟨by (with_reducible repeat (first | refine k1_ ?_ _ | refine k2_ ?_ | refine k3_ ?_ _)); refine blk_put (cs := #[.bool t445, .slice none 0 0]) ?_ 1 _ rfl; (with_reducible repeat (first | refine k1_ ?_ _ | refine k2_ ?_ | refine k3_ ?_ _)); refine blk_put (cs := #[.bool false, .slice none 0 0]) ?_ 0 _ rfl; (with_reducible repeat (first | refine k1_ ?_ _ | refine k2_ ?_ | refine k3_ ?_ _)); exact BK450.out⟩, ⟨by repeat (first | (with_reducible first | exact HB.out | apply b1_ | apply b2_ | apply b3_ | refine b4_ ?_ GE444.out | refine b4_ ?_ GE450.out) | exact HB.out)⟩⟩
       ·
        replace c34 := Bool.eq_false_iff.mpr c34
        subst c34
        have H1 : (laws_FnDecPow.j2 kj7 a0 l1 l2 x9_7 true t439 t440 t445 t446) = some r := by rw [if_neg (show ¬ (false = true) by decide)] at H; exact H
        clear H
        have H := H1
        clear H1
        have H' := a0_ H
        clear H
        go_wp2
        go_meet
        case rel => exact ⟨_, (true), (by first | rfl | (simp; done) | (simp [*]; done)), H', ⟨by have := HJ3.out; have := HJ7.out; first | omega | exact Nat.le_refl _⟩, ⟨by (with_reducible repeat (first | apply v1_ | apply v2_ | apply v3_)); exact v4_ (v5_ (p := ⟨gb450, 1, none⟩) (v5_ (p := ⟨gb450, 0, none⟩) (v4_ HO442.out (fun k_ hk => (⟨hk, hk.2⟩ : _ ∧ k_ ≠ gb450))) (fun _ hk => hk.2) (.bool t445)) (fun _ hk => hk.2) (.slice Ao33 t446.length co33)) (fun _ hk => ⟨hk.1.1.2, hk.1.2⟩)⟩, ⟨by (with_reducible repeat (first | apply v1_ | apply v2_ | apply v3_)); exact v4_ (v5_ (p := ⟨gb450, 1, none⟩) (v5_ (p := ⟨gb450, 0, none⟩) (v4_ HO448.out (fun k_ hk => (⟨hk, hk.2⟩ : _ ∧ k_ ≠ gb450))) (fun _ hk => hk.2) (.bool t445)) (fun _ hk => hk.2) (.slice Ao33 t446.length co33)) (fun _ hk => ⟨hk.1.1, hk.1.2⟩)⟩, ⟨by (with_reducible repeat (first | refine k1_ ?_ _ | refine k2_ ?_ | refine k3_ ?_ _)); refine blk_far ?_ NB444_450.out _; (with_reducible repeat (first | refine k1_ ?_ _ | refine k2_ ?_ | refine k3_ ?_ _)); refine blk_far ?_ NB444_450.out _; (with_reducible repeat (first | refine k1_ ?_ _ | refine k2_ ?_ | refine k3_ ?_ _)); exact BK444.out⟩, ⟨by (with_reducible repeat (first | refine k1_ ?_ _ | refine k2_ ?_ | refine k3_ ?_ _)); refine blk_put (cs := #[.bool t445, .slice none 0 0]) ?_ 1 _ rfl; (with_reducible repeat (first | refine k1_ ?_ _ | refine k2_ ?_ | refine k3_ ?_ _)); refine blk_put (cs := #[.bool false, .slice none 0 0]) ?_ 0 _ rfl; (with_reducible repeat (first | refine k1_ ?_ _ | refine k2_ ?_ | refine k3_ ?_ _)); exact BK450.out⟩, ⟨by repeat (first | (with_reducible first | exact HB.out | apply b1_ | apply b2_ | apply b3_ | refine b4_ ?_ GE444.out | refine b4_ ?_ GE450.out) | exact HB.out)⟩⟩
      case rest =>
       clear HC24
       try clear c1
       try clear c2
       try clear p2
       try clear c3
       try clear c4
       try clear c5
       try clear c5b0
       try clear c5b1
       try clear c6
       try clear c9
       try clear c13
       try clear c16
       try clear c31
       try clear c34
       try clear c35
       try clear hcz27_0
       try clear hcz27_1
       try clear hcz32_0
       try clear hcz32_1
       try clear hfz27_0
       try clear hfz27_1
       try clear hfz32_0
       try clear hfz32_1
       try clear p2
       obtain ⟨kq, x56_23, rfl, HA, HJ23, HO_445001, HO_451001, BK444, BK450, HB⟩ := hcut
       cases kq with
       | zero => exact absurd HA.out (by simp [laws_FnDecPow.j2])
       | succ kj23 =>
        have H := HA.out
        clear HA
        simp only [laws_FnDecPow.j2] at H
        by_cases c36 : x56_23 = true
        ·
         subst c36
         have H1 : (some x9_7) = some r := by rw [if_pos rfl] at H; exact H
         clear H
         have H := H1
         clear H1
         obtain rfl := o1_ H
         go_wp2
         go_ret
         exact ⟨by first | rfl | (simp [e1_, e2_] <;> rfl) | (simp [*, e1_, e2_] <;> rfl), by repeat (first | (with_reducible first | exact HB.out | apply b1_ | apply b2_ | apply b3_ | refine b4_ ?_ GE444.out | refine b4_ ?_ GE450.out) | exact HB.out)⟩
        ·
         replace c36 := Bool.eq_false_iff.mpr c36
         subst c36
         have H1 : ((laws_power.f kj23 a0 t439 t440 t445 t446).bind fun bt451 => (if bt451.2 = true then ((impl_DecPow.f a0 l1 l2).bind fun bt455 => (if bt455.2 = true then ((laws_sameWords.f kj23 bt455.1 bt451.1).bind fun t459 => (if t459 = true then (some x9_7) else (some false))) else (some false))) else (some x9_7))) = some r := by rw [if_neg (show ¬ (false = true) by decide)] at H; exact H
         clear H
         have H := H1
         clear H1
         replace H := Option.bind_eq_some_iff.mp H
         obtain ⟨⟨t451, t454⟩, A370, H⟩ := H
         replace H : (if t454 = true then ((impl_DecPow.f a0 l1 l2).bind fun bt455 => (if bt455.2 = true then ((laws_sameWords.f kj23 bt455.1 t451).bind fun t459 => (if t459 = true then (some x9_7) else (some false))) else (some false))) else (some x9_7)) = some r := H
         have A37 := a0_ A370
         clear A370
         by_cases c38 : t454 = true
         ·
          subst c38
          have H1 : ((impl_DecPow.f a0 l1 l2).bind fun bt455 => (if bt455.2 = true then ((laws_sameWords.f kj23 bt455.1 t451).bind fun t459 => (if t459 = true then (some x9_7) else (some false))) else (some false))) = some r := by rw [if_pos rfl] at H; exact H
          clear H
          have H := H1
          clear H1
          replace H := Option.bind_eq_some_iff.mp H
          obtain ⟨⟨t455, t456⟩, A390, H⟩ := H
          replace H : (if t456 = true then ((laws_sameWords.f kj23 t455 t451).bind fun t459 => (if t459 = true then (some x9_7) else (some false))) else (some false)) = some r := H
          have A39 := a0_ A390
          clear A390
          by_cases c40 : t456 = true
          ·
           subst c40
           have H1 : ((laws_sameWords.f kj23 t455 t451).bind fun t459 => (if t459 = true then (some x9_7) else (some false))) = some r := by rw [if_pos rfl] at H; exact H
           clear H
           have H := H1
           clear H1
           replace H := Option.bind_eq_some_iff.mp H
           obtain ⟨t459, A410, H⟩ := H
           replace H : (if t459 = true then (some x9_7) else (some false)) = some r := H
           have A41 := a0_ A410
           clear A410
           by_cases c42 : t459 = true
           ·
            subst c42
            have H1 : (some x9_7) = some r := by rw [if_pos rfl] at H; exact H
            clear H
            have H := H1
            clear H1
            obtain rfl := o1_ H
            have hnb43 := NB444_450.out
            have hnc43 := NB450_444.out
            have hcz44_0 : wc.cell? ⟨gb444, 0, none⟩ = some (.bool t439) := (blk_cell BK444.out 0).trans rfl
            have hcz44_1 : wc.cell? ⟨gb444, 1, none⟩ = some (.slice Ao28 t440.length co28) := (blk_cell BK444.out 1).trans rfl
            have hfz44_0 := blk_frozen BK444.out 0
            have hfz44_1 := blk_frozen BK444.out 1
            have hcz45_0 : wc.cell? ⟨gb450, 0, none⟩ = some (.bool t445) := (blk_cell BK450.out 0).trans rfl
            have hcz45_1 : wc.cell? ⟨gb450, 1, none⟩ = some (.slice Ao33 t446.length co33) := (blk_cell BK450.out 1).trans rfl
            have hfz45_0 := blk_frozen BK450.out 0
            have hfz45_1 := blk_frozen BK450.out 1
            go_wp2_with (first | ((with_reducible refine gate_callee (f := 14) rfl ?_); refine goesL_ (some 62) rfl rfl Try.func14 (by kernel_rfl) rfl #[.int .i64 a0, .agg #[.bool t439, .slice Ao28 t440.length co28], .agg #[.bool t445, .slice Ao33 t446.length co33]] rfl (by (try simp only [List.map_toArray, List.map_cons, List.map_nil]); first | done | rfl | (simp only [List.length_drop, List.length_take]; rfl)) ?_; (with_reducible refine (laws_power.calls kj23 a0 t439 _ _ t440 t445 _ _ t446 t451 true _ ?side1 ?side2 ?side3 ?side4 A37.out).mono ?_); (case side1 => repeat (first | exact (Kd.V_reads' HO_445001.out).2.2 | (with_reducible refine Kd.C_alloc ?_ _) | (with_reducible refine Kd.C_drewN ?_ _) | (with_reducible refine Kd.C_drew ?_))); (case side2 => exact (Kd.V_reads' HO_445001.out).2.1); (case side3 => repeat (first | exact (Kd.V_reads' HO_451001.out).2.2 | (with_reducible refine Kd.C_alloc ?_ _) | (with_reducible refine Kd.C_drewN ?_ _) | (with_reducible refine Kd.C_drew ?_))); (case side4 => exact (Kd.V_reads' HO_451001.out).2.1); rintro e w46 ⟨v452, rfl, ho0, hb⟩; refine ⟨_, rfl, ?_⟩; have n0_ := a0_ (Kd.V_elder' (by (with_reducible repeat (first | apply v1_ | apply v2_ | apply v3_)); exact HO_445001.out) (Kd.R_base ho0) hb); have n1_ := a0_ (Kd.V_elder' (by (with_reducible repeat (first | apply v1_ | apply v2_ | apply v3_)); exact HO_451001.out) (Kd.R_base ho0) hb); have n2_ := a0_ (Kd.R_lower ho0 (below_size (by repeat (first | (with_reducible first | exact HB.out | apply b1_ | apply b2_ | apply b3_ | refine b4_ ?_ GE444.out | refine b4_ ?_ GE450.out) | exact HB.out)))); have n3_ := a0_ (blk_below (g := gb444) (o := .cells #[.bool t439, .slice Ao28 t440.length co28] 29 (0, 0)) (by (with_reducible repeat (first | refine k1_ ?_ _ | refine k2_ ?_ | refine k3_ ?_ _)); exact BK444.out) hb); have n4_ := a0_ (blk_below (g := gb450) (o := .cells #[.bool t445, .slice Ao33 t446.length co33] 29 (0, 0)) (by (with_reducible repeat (first | refine k1_ ?_ _ | refine k2_ ?_ | refine k3_ ?_ _)); exact BK450.out) hb); have n5_ := a0_ (below_step (by repeat (first | (with_reducible first | exact HB.out | apply b1_ | apply b2_ | apply b3_ | refine b4_ ?_ GE444.out | refine b4_ ?_ GE450.out) | exact HB.out)) hb); clear HO_445001; clear HO_451001; clear BK444; clear BK450; clear HB; have HO_445001 := n0_; have HO_451001 := n1_; have HO453 := n2_; have BK444 := n3_; have BK450 := n4_; have HB := n5_; clear n0_ n1_ n2_ n3_ n4_ n5_; (try clear hb); (try clear hb2); (try clear hk); (try clear hi); (try clear ho0)) | ((with_reducible refine gate_callee (f := 13) rfl ?_); refine goesL_ (some 72) rfl rfl Try.func13 (by kernel_rfl) rfl #[.int .i64 a0, .slice A1 l1.length c1, .slice A2 l2.length c2] rfl (by (try simp only [List.map_toArray, List.map_cons, List.map_nil]); first | done | rfl | (simp only [List.length_drop, List.length_take]; rfl)) ?_; (with_reducible refine (impl_DecPow.calls a0 _ _ l1 _ _ l2 t455 true _ ?side1 ?side2 ?side3 ?side4 A39.out).mono ?_); (case side1 => repeat (first | exact (Kd.C_below HR1.out HB.out) | (with_reducible refine Kd.C_alloc ?_ _) | (with_reducible refine Kd.C_drewN ?_ _) | (with_reducible refine Kd.C_drew ?_))); (case side2 => exact HC1.out); (case side3 => repeat (first | exact (Kd.C_below HR2.out HB.out) | (with_reducible refine Kd.C_alloc ?_ _) | (with_reducible refine Kd.C_drewN ?_ _) | (with_reducible refine Kd.C_drew ?_))); (case side4 => exact HC2.out); rintro e w47 ⟨v457, rfl, ho0, hb⟩; refine ⟨_, rfl, ?_⟩; have n0_ := a0_ (Kd.V_elder' (by (with_reducible repeat (first | apply v1_ | apply v2_ | apply v3_)); exact HO_445001.out) (Kd.R_base ho0) hb); have n1_ := a0_ (Kd.V_elder' (by (with_reducible repeat (first | apply v1_ | apply v2_ | apply v3_)); exact HO_451001.out) (Kd.R_base ho0) hb); have n2_ := a0_ (Kd.R_elder' (by (with_reducible repeat (first | apply r1_ | apply r2_ | apply r3_)); exact HO453.out) (Kd.R_base ho0) hb); have n3_ := a0_ (Kd.R_lower (Kd.R_new' ho0 (Kd.R_lt (by (with_reducible repeat (first | apply r1_ | apply r2_ | apply r3_)); exact HO453.out))) (below_size (by repeat (first | (with_reducible first | exact HB.out | apply b1_ | apply b2_ | apply b3_ | refine b4_ ?_ GE444.out | refine b4_ ?_ GE450.out) | exact HB.out)))); have n4_ := a0_ (blk_below (g := gb444) (o := .cells #[.bool t439, .slice Ao28 t440.length co28] 29 (0, 0)) (by (with_reducible repeat (first | refine k1_ ?_ _ | refine k2_ ?_ | refine k3_ ?_ _)); exact BK444.out) hb); have n5_ := a0_ (blk_below (g := gb450) (o := .cells #[.bool t445, .slice Ao33 t446.length co33] 29 (0, 0)) (by (with_reducible repeat (first | refine k1_ ?_ _ | refine k2_ ?_ | refine k3_ ?_ _)); exact BK450.out) hb); have n6_ := a0_ (below_step (by repeat (first | (with_reducible first | exact HB.out | apply b1_ | apply b2_ | apply b3_ | refine b4_ ?_ GE444.out | refine b4_ ?_ GE450.out) | exact HB.out)) hb); clear HO_445001; clear HO_451001; clear HO453; clear BK444; clear BK450; clear HB; have HO_445001 := n0_; have HO_451001 := n1_; have HO453 := n2_; have HO458 := n3_; have BK444 := n4_; have BK450 := n5_; have HB := n6_; clear n0_ n1_ n2_ n3_ n4_ n5_ n6_; (try clear hb); (try clear hb2); (try clear hk); (try clear hi); (try clear ho0); obtain ⟨Ao48, co48, eo48⟩ := Kd.R_slice HO458.out; subst eo48; obtain ⟨Ao49, co49, eo49⟩ := Kd.R_slice HO453.out; subst eo49) | (go_at_call 8; (with_reducible refine (laws_sameWords.calls kj23 _ _ t455 _ _ t451 true _ ?side1 ?side2 ?side3 ?side4 A41.out).mono ?_); (case side1 => repeat (first | exact (Kd.R_reads' HO458.out).2.2 | (with_reducible refine Kd.C_alloc ?_ _) | (with_reducible refine Kd.C_drewN ?_ _) | (with_reducible refine Kd.C_drew ?_))); (case side2 => exact (Kd.R_reads' HO458.out).2.1); (case side3 => repeat (first | exact (Kd.R_reads' HO453.out).2.2 | (with_reducible refine Kd.C_alloc ?_ _) | (with_reducible refine Kd.C_drewN ?_ _) | (with_reducible refine Kd.C_drew ?_))); (case side4 => exact (Kd.R_reads' HO453.out).2.1); rintro e w' ⟨rfl, ⟨nd, rfl⟩⟩))
            go_ret
            exact ⟨by first | rfl | (simp [e1_, e2_] <;> rfl) | (simp [*, e1_, e2_] <;> rfl), by repeat (first | (with_reducible first | exact HB.out | apply b1_ | apply b2_ | apply b3_ | refine b4_ ?_ GE444.out | refine b4_ ?_ GE450.out) | exact HB.out)⟩
           ·
            replace c42 := Bool.eq_false_iff.mpr c42
            subst c42
            have H1 : (some false) = some r := by rw [if_neg (show ¬ (false = true) by decide)] at H; exact H
            clear H
            have H := H1
            clear H1
            obtain rfl := o1_ H
            have hnb50 := NB444_450.out
            have hnc50 := NB450_444.out
            have hcz51_0 : wc.cell? ⟨gb444, 0, none⟩ = some (.bool t439) := (blk_cell BK444.out 0).trans rfl
            have hcz51_1 : wc.cell? ⟨gb444, 1, none⟩ = some (.slice Ao28 t440.length co28) := (blk_cell BK444.out 1).trans rfl
            have hfz51_0 := blk_frozen BK444.out 0
            have hfz51_1 := blk_frozen BK444.out 1
            have hcz52_0 : wc.cell? ⟨gb450, 0, none⟩ = some (.bool t445) := (blk_cell BK450.out 0).trans rfl
            have hcz52_1 : wc.cell? ⟨gb450, 1, none⟩ = some (.slice Ao33 t446.length co33) := (blk_cell BK450.out 1).trans rfl
            have hfz52_0 := blk_frozen BK450.out 0
            have hfz52_1 := blk_frozen BK450.out 1
            go_wp2_with (first | ((with_reducible refine gate_callee (f := 14) rfl ?_); refine goesL_ (some 62) rfl rfl Try.func14 (by kernel_rfl) rfl #[.int .i64 a0, .agg #[.bool t439, .slice Ao28 t440.length co28], .agg #[.bool t445, .slice Ao33 t446.length co33]] rfl (by (try simp only [List.map_toArray, List.map_cons, List.map_nil]); first | done | rfl | (simp only [List.length_drop, List.length_take]; rfl)) ?_; (with_reducible refine (laws_power.calls kj23 a0 t439 _ _ t440 t445 _ _ t446 t451 true _ ?side1 ?side2 ?side3 ?side4 A37.out).mono ?_); (case side1 => repeat (first | exact (Kd.V_reads' HO_445001.out).2.2 | (with_reducible refine Kd.C_alloc ?_ _) | (with_reducible refine Kd.C_drewN ?_ _) | (with_reducible refine Kd.C_drew ?_))); (case side2 => exact (Kd.V_reads' HO_445001.out).2.1); (case side3 => repeat (first | exact (Kd.V_reads' HO_451001.out).2.2 | (with_reducible refine Kd.C_alloc ?_ _) | (with_reducible refine Kd.C_drewN ?_ _) | (with_reducible refine Kd.C_drew ?_))); (case side4 => exact (Kd.V_reads' HO_451001.out).2.1); rintro e w53 ⟨v452, rfl, ho0, hb⟩; refine ⟨_, rfl, ?_⟩; have n0_ := a0_ (Kd.V_elder' (by (with_reducible repeat (first | apply v1_ | apply v2_ | apply v3_)); exact HO_445001.out) (Kd.R_base ho0) hb); have n1_ := a0_ (Kd.V_elder' (by (with_reducible repeat (first | apply v1_ | apply v2_ | apply v3_)); exact HO_451001.out) (Kd.R_base ho0) hb); have n2_ := a0_ (Kd.R_lower ho0 (below_size (by repeat (first | (with_reducible first | exact HB.out | apply b1_ | apply b2_ | apply b3_ | refine b4_ ?_ GE444.out | refine b4_ ?_ GE450.out) | exact HB.out)))); have n3_ := a0_ (blk_below (g := gb444) (o := .cells #[.bool t439, .slice Ao28 t440.length co28] 29 (0, 0)) (by (with_reducible repeat (first | refine k1_ ?_ _ | refine k2_ ?_ | refine k3_ ?_ _)); exact BK444.out) hb); have n4_ := a0_ (blk_below (g := gb450) (o := .cells #[.bool t445, .slice Ao33 t446.length co33] 29 (0, 0)) (by (with_reducible repeat (first | refine k1_ ?_ _ | refine k2_ ?_ | refine k3_ ?_ _)); exact BK450.out) hb); have n5_ := a0_ (below_step (by repeat (first | (with_reducible first | exact HB.out | apply b1_ | apply b2_ | apply b3_ | refine b4_ ?_ GE444.out | refine b4_ ?_ GE450.out) | exact HB.out)) hb); clear HO_445001; clear HO_451001; clear BK444; clear BK450; clear HB; have HO_445001 := n0_; have HO_451001 := n1_; have HO453 := n2_; have BK444 := n3_; have BK450 := n4_; have HB := n5_; clear n0_ n1_ n2_ n3_ n4_ n5_; (try clear hb); (try clear hb2); (try clear hk); (try clear hi); (try clear ho0)) | ((with_reducible refine gate_callee (f := 13) rfl ?_); refine goesL_ (some 72) rfl rfl Try.func13 (by kernel_rfl) rfl #[.int .i64 a0, .slice A1 l1.length c1, .slice A2 l2.length c2] rfl (by (try simp only [List.map_toArray, List.map_cons, List.map_nil]); first | done | rfl | (simp only [List.length_drop, List.length_take]; rfl)) ?_; (with_reducible refine (impl_DecPow.calls a0 _ _ l1 _ _ l2 t455 true _ ?side1 ?side2 ?side3 ?side4 A39.out).mono ?_); (case side1 => repeat (first | exact (Kd.C_below HR1.out HB.out) | (with_reducible refine Kd.C_alloc ?_ _) | (with_reducible refine Kd.C_drewN ?_ _) | (with_reducible refine Kd.C_drew ?_))); (case side2 => exact HC1.out); (case side3 => repeat (first | exact (Kd.C_below HR2.out HB.out) | (with_reducible refine Kd.C_alloc ?_ _) | (with_reducible refine Kd.C_drewN ?_ _) | (with_reducible refine Kd.C_drew ?_))); (case side4 => exact HC2.out); rintro e w54 ⟨v457, rfl, ho0, hb⟩; refine ⟨_, rfl, ?_⟩; have n0_ := a0_ (Kd.V_elder' (by (with_reducible repeat (first | apply v1_ | apply v2_ | apply v3_)); exact HO_445001.out) (Kd.R_base ho0) hb); have n1_ := a0_ (Kd.V_elder' (by (with_reducible repeat (first | apply v1_ | apply v2_ | apply v3_)); exact HO_451001.out) (Kd.R_base ho0) hb); have n2_ := a0_ (Kd.R_elder' (by (with_reducible repeat (first | apply r1_ | apply r2_ | apply r3_)); exact HO453.out) (Kd.R_base ho0) hb); have n3_ := a0_ (Kd.R_lower (Kd.R_new' ho0 (Kd.R_lt (by (with_reducible repeat (first | apply r1_ | apply r2_ | apply r3_)); exact HO453.out))) (below_size (by repeat (first | (with_reducible first | exact HB.out | apply b1_ | apply b2_ | apply b3_ | refine b4_ ?_ GE444.out | refine b4_ ?_ GE450.out) | exact HB.out)))); have n4_ := a0_ (blk_below (g := gb444) (o := .cells #[.bool t439, .slice Ao28 t440.length co28] 29 (0, 0)) (by (with_reducible repeat (first | refine k1_ ?_ _ | refine k2_ ?_ | refine k3_ ?_ _)); exact BK444.out) hb); have n5_ := a0_ (blk_below (g := gb450) (o := .cells #[.bool t445, .slice Ao33 t446.length co33] 29 (0, 0)) (by (with_reducible repeat (first | refine k1_ ?_ _ | refine k2_ ?_ | refine k3_ ?_ _)); exact BK450.out) hb); have n6_ := a0_ (below_step (by repeat (first | (with_reducible first | exact HB.out | apply b1_ | apply b2_ | apply b3_ | refine b4_ ?_ GE444.out | refine b4_ ?_ GE450.out) | exact HB.out)) hb); clear HO_445001; clear HO_451001; clear HO453; clear BK444; clear BK450; clear HB; have HO_445001 := n0_; have HO_451001 := n1_; have HO453 := n2_; have HO458 := n3_; have BK444 := n4_; have BK450 := n5_; have HB := n6_; clear n0_ n1_ n2_ n3_ n4_ n5_ n6_; (try clear hb); (try clear hb2); (try clear hk); (try clear hi); (try clear ho0); obtain ⟨Ao55, co55, eo55⟩ := Kd.R_slice HO458.out; subst eo55; obtain ⟨Ao56, co56, eo56⟩ := Kd.R_slice HO453.out; subst eo56) | (go_at_call 8; (with_reducible refine (laws_sameWords.calls kj23 _ _ t455 _ _ t451 false _ ?side1 ?side2 ?side3 ?side4 A41.out).mono ?_); (case side1 => repeat (first | exact (Kd.R_reads' HO458.out).2.2 | (with_reducible refine Kd.C_alloc ?_ _) | (with_reducible refine Kd.C_drewN ?_ _) | (with_reducible refine Kd.C_drew ?_))); (case side2 => exact (Kd.R_reads' HO458.out).2.1); (case side3 => repeat (first | exact (Kd.R_reads' HO453.out).2.2 | (with_reducible refine Kd.C_alloc ?_ _) | (with_reducible refine Kd.C_drewN ?_ _) | (with_reducible refine Kd.C_drew ?_))); (case side4 => exact (Kd.R_reads' HO453.out).2.1); rintro e w' ⟨rfl, ⟨nd, rfl⟩⟩))
            go_ret
            exact ⟨by first | rfl | (simp [e1_, e2_] <;> rfl) | (simp [*, e1_, e2_] <;> rfl), by repeat (first | (with_reducible first | exact HB.out | apply b1_ | apply b2_ | apply b3_ | refine b4_ ?_ GE444.out | refine b4_ ?_ GE450.out) | exact HB.out)⟩
          ·
           replace c40 := Bool.eq_false_iff.mpr c40
           subst c40
           have H1 : (some false) = some r := by rw [if_neg (show ¬ (false = true) by decide)] at H; exact H
           clear H
           have H := H1
           clear H1
           obtain rfl := o1_ H
           have hnb57 := NB444_450.out
           have hnc57 := NB450_444.out
           have hcz58_0 : wc.cell? ⟨gb444, 0, none⟩ = some (.bool t439) := (blk_cell BK444.out 0).trans rfl
           have hcz58_1 : wc.cell? ⟨gb444, 1, none⟩ = some (.slice Ao28 t440.length co28) := (blk_cell BK444.out 1).trans rfl
           have hfz58_0 := blk_frozen BK444.out 0
           have hfz58_1 := blk_frozen BK444.out 1
           have hcz59_0 : wc.cell? ⟨gb450, 0, none⟩ = some (.bool t445) := (blk_cell BK450.out 0).trans rfl
           have hcz59_1 : wc.cell? ⟨gb450, 1, none⟩ = some (.slice Ao33 t446.length co33) := (blk_cell BK450.out 1).trans rfl
           have hfz59_0 := blk_frozen BK450.out 0
           have hfz59_1 := blk_frozen BK450.out 1
           go_wp2_with (first | ((with_reducible refine gate_callee (f := 14) rfl ?_); refine goesL_ (some 62) rfl rfl Try.func14 (by kernel_rfl) rfl #[.int .i64 a0, .agg #[.bool t439, .slice Ao28 t440.length co28], .agg #[.bool t445, .slice Ao33 t446.length co33]] rfl (by (try simp only [List.map_toArray, List.map_cons, List.map_nil]); first | done | rfl | (simp only [List.length_drop, List.length_take]; rfl)) ?_; (with_reducible refine (laws_power.calls kj23 a0 t439 _ _ t440 t445 _ _ t446 t451 true _ ?side1 ?side2 ?side3 ?side4 A37.out).mono ?_); (case side1 => repeat (first | exact (Kd.V_reads' HO_445001.out).2.2 | (with_reducible refine Kd.C_alloc ?_ _) | (with_reducible refine Kd.C_drewN ?_ _) | (with_reducible refine Kd.C_drew ?_))); (case side2 => exact (Kd.V_reads' HO_445001.out).2.1); (case side3 => repeat (first | exact (Kd.V_reads' HO_451001.out).2.2 | (with_reducible refine Kd.C_alloc ?_ _) | (with_reducible refine Kd.C_drewN ?_ _) | (with_reducible refine Kd.C_drew ?_))); (case side4 => exact (Kd.V_reads' HO_451001.out).2.1); rintro e w60 ⟨v452, rfl, ho0, hb⟩; refine ⟨_, rfl, ?_⟩; have n0_ := a0_ (Kd.V_elder' (by (with_reducible repeat (first | apply v1_ | apply v2_ | apply v3_)); exact HO_445001.out) (Kd.R_base ho0) hb); have n1_ := a0_ (Kd.V_elder' (by (with_reducible repeat (first | apply v1_ | apply v2_ | apply v3_)); exact HO_451001.out) (Kd.R_base ho0) hb); have n2_ := a0_ (Kd.R_lower ho0 (below_size (by repeat (first | (with_reducible first | exact HB.out | apply b1_ | apply b2_ | apply b3_ | refine b4_ ?_ GE444.out | refine b4_ ?_ GE450.out) | exact HB.out)))); have n3_ := a0_ (blk_below (g := gb444) (o := .cells #[.bool t439, .slice Ao28 t440.length co28] 29 (0, 0)) (by (with_reducible repeat (first | refine k1_ ?_ _ | refine k2_ ?_ | refine k3_ ?_ _)); exact BK444.out) hb); have n4_ := a0_ (blk_below (g := gb450) (o := .cells #[.bool t445, .slice Ao33 t446.length co33] 29 (0, 0)) (by (with_reducible repeat (first | refine k1_ ?_ _ | refine k2_ ?_ | refine k3_ ?_ _)); exact BK450.out) hb); have n5_ := a0_ (below_step (by repeat (first | (with_reducible first | exact HB.out | apply b1_ | apply b2_ | apply b3_ | refine b4_ ?_ GE444.out | refine b4_ ?_ GE450.out) | exact HB.out)) hb); clear HO_445001; clear HO_451001; clear BK444; clear BK450; clear HB; have HO_445001 := n0_; have HO_451001 := n1_; have HO453 := n2_; have BK444 := n3_; have BK450 := n4_; have HB := n5_; clear n0_ n1_ n2_ n3_ n4_ n5_; (try clear hb); (try clear hb2); (try clear hk); (try clear hi); (try clear ho0)) | ((with_reducible refine gate_callee (f := 13) rfl ?_); refine goesL_ (some 72) rfl rfl Try.func13 (by kernel_rfl) rfl #[.int .i64 a0, .slice A1 l1.length c1, .slice A2 l2.length c2] rfl (by (try simp only [List.map_toArray, List.map_cons, List.map_nil]); first | done | rfl | (simp only [List.length_drop, List.length_take]; rfl)) ?_; (with_reducible refine (impl_DecPow.calls a0 _ _ l1 _ _ l2 t455 false _ ?side1 ?side2 ?side3 ?side4 A39.out).mono ?_); (case side1 => repeat (first | exact (Kd.C_below HR1.out HB.out) | (with_reducible refine Kd.C_alloc ?_ _) | (with_reducible refine Kd.C_drewN ?_ _) | (with_reducible refine Kd.C_drew ?_))); (case side2 => exact HC1.out); (case side3 => repeat (first | exact (Kd.C_below HR2.out HB.out) | (with_reducible refine Kd.C_alloc ?_ _) | (with_reducible refine Kd.C_drewN ?_ _) | (with_reducible refine Kd.C_drew ?_))); (case side4 => exact HC2.out); rintro e w61 ⟨v457, rfl, ho0, hb⟩; refine ⟨_, rfl, ?_⟩; have n0_ := a0_ (Kd.V_elder' (by (with_reducible repeat (first | apply v1_ | apply v2_ | apply v3_)); exact HO_445001.out) (Kd.R_base ho0) hb); have n1_ := a0_ (Kd.V_elder' (by (with_reducible repeat (first | apply v1_ | apply v2_ | apply v3_)); exact HO_451001.out) (Kd.R_base ho0) hb); have n2_ := a0_ (Kd.R_elder' (by (with_reducible repeat (first | apply r1_ | apply r2_ | apply r3_)); exact HO453.out) (Kd.R_base ho0) hb); have n3_ := a0_ (Kd.R_lower (Kd.R_new' ho0 (Kd.R_lt (by (with_reducible repeat (first | apply r1_ | apply r2_ | apply r3_)); exact HO453.out))) (below_size (by repeat (first | (with_reducible first | exact HB.out | apply b1_ | apply b2_ | apply b3_ | refine b4_ ?_ GE444.out | refine b4_ ?_ GE450.out) | exact HB.out)))); have n4_ := a0_ (blk_below (g := gb444) (o := .cells #[.bool t439, .slice Ao28 t440.length co28] 29 (0, 0)) (by (with_reducible repeat (first | refine k1_ ?_ _ | refine k2_ ?_ | refine k3_ ?_ _)); exact BK444.out) hb); have n5_ := a0_ (blk_below (g := gb450) (o := .cells #[.bool t445, .slice Ao33 t446.length co33] 29 (0, 0)) (by (with_reducible repeat (first | refine k1_ ?_ _ | refine k2_ ?_ | refine k3_ ?_ _)); exact BK450.out) hb); have n6_ := a0_ (below_step (by repeat (first | (with_reducible first | exact HB.out | apply b1_ | apply b2_ | apply b3_ | refine b4_ ?_ GE444.out | refine b4_ ?_ GE450.out) | exact HB.out)) hb); clear HO_445001; clear HO_451001; clear HO453; clear BK444; clear BK450; clear HB; have HO_445001 := n0_; have HO_451001 := n1_; have HO453 := n2_; have HO458 := n3_; have BK444 := n4_; have BK450 := n5_; have HB := n6_; clear n0_ n1_ n2_ n3_ n4_ n5_ n6_; (try clear hb); (try clear hb2); (try clear hk); (try clear hi); (try clear ho0)))
           go_ret
           exact ⟨by first | rfl | (simp [e1_, e2_] <;> rfl) | (simp [*, e1_, e2_] <;> rfl), by repeat (first | (with_reducible first | exact HB.out | apply b1_ | apply b2_ | apply b3_ | refine b4_ ?_ GE444.out | refine b4_ ?_ GE450.out) | exact HB.out)⟩
         ·
          replace c38 := Bool.eq_false_iff.mpr c38
          subst c38
          have H1 : (some x9_7) = some r := by rw [if_neg (show ¬ (false = true) by decide)] at H; exact H
          clear H
          have H := H1
          clear H1
          obtain rfl := o1_ H
          have hnb62 := NB444_450.out
          have hnc62 := NB450_444.out
          have hcz63_0 : wc.cell? ⟨gb444, 0, none⟩ = some (.bool t439) := (blk_cell BK444.out 0).trans rfl
          have hcz63_1 : wc.cell? ⟨gb444, 1, none⟩ = some (.slice Ao28 t440.length co28) := (blk_cell BK444.out 1).trans rfl
          have hfz63_0 := blk_frozen BK444.out 0
          have hfz63_1 := blk_frozen BK444.out 1
          have hcz64_0 : wc.cell? ⟨gb450, 0, none⟩ = some (.bool t445) := (blk_cell BK450.out 0).trans rfl
          have hcz64_1 : wc.cell? ⟨gb450, 1, none⟩ = some (.slice Ao33 t446.length co33) := (blk_cell BK450.out 1).trans rfl
          have hfz64_0 := blk_frozen BK450.out 0
          have hfz64_1 := blk_frozen BK450.out 1
          go_wp2_with (first | ((with_reducible refine gate_callee (f := 14) rfl ?_); refine goesL_ (some 62) rfl rfl Try.func14 (by kernel_rfl) rfl #[.int .i64 a0, .agg #[.bool t439, .slice Ao28 t440.length co28], .agg #[.bool t445, .slice Ao33 t446.length co33]] rfl (by (try simp only [List.map_toArray, List.map_cons, List.map_nil]); first | done | rfl | (simp only [List.length_drop, List.length_take]; rfl)) ?_; (with_reducible refine (laws_power.calls kj23 a0 t439 _ _ t440 t445 _ _ t446 t451 false _ ?side1 ?side2 ?side3 ?side4 A37.out).mono ?_); (case side1 => repeat (first | exact (Kd.V_reads' HO_445001.out).2.2 | (with_reducible refine Kd.C_alloc ?_ _) | (with_reducible refine Kd.C_drewN ?_ _) | (with_reducible refine Kd.C_drew ?_))); (case side2 => exact (Kd.V_reads' HO_445001.out).2.1); (case side3 => repeat (first | exact (Kd.V_reads' HO_451001.out).2.2 | (with_reducible refine Kd.C_alloc ?_ _) | (with_reducible refine Kd.C_drewN ?_ _) | (with_reducible refine Kd.C_drew ?_))); (case side4 => exact (Kd.V_reads' HO_451001.out).2.1); rintro e w65 ⟨v452, rfl, ho0, hb⟩; refine ⟨_, rfl, ?_⟩; have n0_ := a0_ (Kd.V_elder' (by (with_reducible repeat (first | apply v1_ | apply v2_ | apply v3_)); exact HO_445001.out) (Kd.R_base ho0) hb); have n1_ := a0_ (Kd.V_elder' (by (with_reducible repeat (first | apply v1_ | apply v2_ | apply v3_)); exact HO_451001.out) (Kd.R_base ho0) hb); have n2_ := a0_ (Kd.R_lower ho0 (below_size (by repeat (first | (with_reducible first | exact HB.out | apply b1_ | apply b2_ | apply b3_ | refine b4_ ?_ GE444.out | refine b4_ ?_ GE450.out) | exact HB.out)))); have n3_ := a0_ (blk_below (g := gb444) (o := .cells #[.bool t439, .slice Ao28 t440.length co28] 29 (0, 0)) (by (with_reducible repeat (first | refine k1_ ?_ _ | refine k2_ ?_ | refine k3_ ?_ _)); exact BK444.out) hb); have n4_ := a0_ (blk_below (g := gb450) (o := .cells #[.bool t445, .slice Ao33 t446.length co33] 29 (0, 0)) (by (with_reducible repeat (first | refine k1_ ?_ _ | refine k2_ ?_ | refine k3_ ?_ _)); exact BK450.out) hb); have n5_ := a0_ (below_step (by repeat (first | (with_reducible first | exact HB.out | apply b1_ | apply b2_ | apply b3_ | refine b4_ ?_ GE444.out | refine b4_ ?_ GE450.out) | exact HB.out)) hb); clear HO_445001; clear HO_451001; clear BK444; clear BK450; clear HB; have HO_445001 := n0_; have HO_451001 := n1_; have HO453 := n2_; have BK444 := n3_; have BK450 := n4_; have HB := n5_; clear n0_ n1_ n2_ n3_ n4_ n5_; (try clear hb); (try clear hb2); (try clear hk); (try clear hi); (try clear ho0)))
          go_ret
          exact ⟨by first | rfl | (simp [e1_, e2_] <;> rfl) | (simp [*, e1_, e2_] <;> rfl), by repeat (first | (with_reducible first | exact HB.out | apply b1_ | apply b2_ | apply b3_ | refine b4_ ?_ GE444.out | refine b4_ ?_ GE450.out) | exact HB.out)⟩

/-- THE ONE PURE STATEMENT of laws_FnDecPow: yours. -/
def laws_FnDecPow.Pure : Prop := ∀ (a0 : Int) (l1 : List Int) (l2 : List Int), (Lit.int .i64 a0).wf = true → l1.length ≤ maxLen → l1.length * 8 ≤ 140737488351232 → (∀ x ∈ l1, (Lit.int .u64 x).wf = true) → l2.length ≤ maxLen → l2.length * 8 ≤ 140737488351232 → (∀ x ∈ l2, (Lit.int .u64 x).wf = true) → ∃ k, laws_FnDecPow.f k a0 l1 l2 = some true
theorem laws_FnDecPow.walk (P : laws_FnDecPow.Pure) (a0 : Int) (a1 : Option Addr) (len1 cap1 : Nat) (z1 : List Int) (a2 : Option Addr) (len2 cap2 : Nat) (z2 : List Int) (w : World) (w0 : (Lit.int .i64 a0).wf = true) (w1 : (a1 = none ∧ len1 = 0 ∧ cap1 = 0 ∧ z1 = []) ∨ ∃ x, a1 = some x ∧ len1 ≤ cap1 ∧ cap1 ≤ maxLen ∧ z1.length = cap1 ∧ (∀ i, i < z1.length → w.cell? (x.add i) = some (.int .u64 (z1.getD i 0))) ∧ ∀ n ∈ z1, (Lit.int .u64 n).wf = true) (y1 : len1 * 8 ≤ 140737488351232) (w2 : (a2 = none ∧ len2 = 0 ∧ cap2 = 0 ∧ z2 = []) ∨ ∃ x, a2 = some x ∧ len2 ≤ cap2 ∧ cap2 ≤ maxLen ∧ z2.length = cap2 ∧ (∀ i, i < z2.length → w.cell? (x.add i) = some (.int .u64 (z2.getD i 0))) ∧ ∀ n ∈ z2, (Lit.int .u64 n).wf = true) (y2 : len2 * 8 ≤ 140737488351232) :
  Calls Try.prog 4 #[.int .i64 a0, .slice a1 len1 cap1, .slice a2 len2 cap2] w fun e w' => e = .returned (.bool true) ∧ Below w.heap.size w w' := by
 obtain ⟨l1, rfl, hr1, hm1, hw1, hc1⟩ := ReadsInt.ofRowC w1
 obtain ⟨l2, rfl, hr2, hm2, hw2, hc2⟩ := ReadsInt.ofRowC w2
 obtain ⟨k, h⟩ := P a0 l1 l2 w0 hm1 y1 hw1 hm2 y2 hw2
 refine (laws_FnDecPow.calls k a0 _ _ l1 _ _ l2 true w (Kd.C_of_reads (d := (0 : Int)) (h1 := fun _ => rfl) hr1) hc1 (Kd.C_of_reads (d := (0 : Int)) (h1 := fun _ => rfl) hr2) hc2 h).mono ?_
 rintro e w' ⟨rfl, hd⟩
 exact ⟨rfl, hd⟩


end Go.Proofs.Ytiiicmfobljnaaa.V
