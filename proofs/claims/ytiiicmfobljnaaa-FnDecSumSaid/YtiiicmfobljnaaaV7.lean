import Derived.Test.YtiiicmfobljnaaaV4
import Derived.Test.YtiiicmfobljnaaaT3
namespace Go.Proofs.Ytiiicmfobljnaaa.V
open Go.RowKit Go.Proofs.YtiiicmfobljnaaaW.PrintWords Go.Proofs.YtiiicmfobljnaaaW.PrintLast Go.Proofs.YtiiicmfobljnaaaW.PrintMore
attribute [local go_sem] max2_int min2_int max_two min_two max_three min_three max_four min_four
set_option linter.unusedVariables false
set_option linter.unusedSimpArgs false

/-! ### laws_unit: function 20 -/
def laws_unit.f  : Option (List Int) := some (([1, 0] : List Int))
set_option maxHeartbeats 8000000 in
set_option maxRecDepth 100000 in
theorem laws_unit.calls  (r : List Int) (w : World) (h : laws_unit.f  = some r) :
  Calls Try.prog 20 #[] w fun e w' => ∃ v0_ : Value, e = .returned (v0_) ∧ Kd.R (Kd.int .u64) 25 w' w.heap.size (fun _ => True) v0_ r ∧ Below w.heap.size w w' := by
 have HB := a0_ (Below.refl w.heap.size w)
 have H : (some (([1, 0] : List Int))) = some r := h
 clear h
 obtain ⟨y341, hy341⟩ : ∃ y_ : List Int, y_ = (([1, 0] : List Int)) := ⟨_, rfl⟩
 replace H : (some y341) = some r := by first | (rw [hy341]; with_reducible exact H) | (have H2_ := (o2_ _ _).symm.trans H; rw [hy341]; with_reducible exact H2_) | (have H2_ := (o2_ _ _).symm.trans H; with_reducible exact H2_) | with_reducible exact H | (rw [hy341]; exact H) | exact H
 have Ny341 := a0_ hy341
 clear hy341
 obtain rfl := o1_ H
 go_enter Try.func20, Try.ntmps20
 go_wp2_with (first | ((with_reducible refine gate_dst (N := 1) rfl ?_); refine Kd.R_lit (Kd.int .u64) _ 25 ?hg (N := 1) ?hd (xs := ([1, 0] : List Int)) (inner := [.int .u64 1, .int .u64 0]) (ok := fun _ => True) (okp := fun _ => True) ?hr ?hp (fun _ hk => hk) trivial (Below.refl _ _) (Nat.le_refl _) (by simp) ?_; (case hd => rfl); (case hg => rfl); (case hr => first | (go_simp; done) | (go_simp; rfl)); (case hp => exact (Reps.one (show Kd.M (Kd.int .u64) _ _ _ 1 [.int .u64 1] from rfl) (Reps.one (show Kd.M (Kd.int .u64) _ _ _ 0 [.int .u64 0] from rfl) (Reps.none _ _)))); intro v342 w1 ho2 hb hg_ hnew_; clear hg_ hnew_; (first | rw [← Ny341.out] at ho2 | (simp only [Int.reduceToNat] at ho2; rw [← Ny341.out] at ho2)); have n0_ := a0_ (Kd.R_lower ho2 (below_size (by repeat (first | (with_reducible first | exact HB.out | apply b1_ | apply b2_ | apply b3_) | exact HB.out)))); have n1_ := a0_ (below_step (by repeat (first | (with_reducible first | exact HB.out | apply b1_ | apply b2_ | apply b3_) | exact HB.out)) hb); clear HB; have HO343 := n0_; have HB := n1_; clear n0_ n1_; clear hb ho2))
 go_ret
 exact ⟨_, by first | rfl | (simp [e1_, e2_] <;> rfl) | (simp [*, e1_, e2_] <;> rfl), by (with_reducible repeat (first | apply r1_ | apply r2_ | apply r3_)); exact HO343.out, by repeat (first | (with_reducible first | exact HB.out | apply b1_ | apply b2_ | apply b3_) | exact HB.out)⟩

/-! ### laws_sums: function 15 -/
def laws_sums.f (k : Nat)  : Option (Bool) := (laws_unit.f).bind fun t344 => ((laws_unit.f).bind fun t347 => ((impl_DecSum.f 128 false t344 t347).bind fun bt350 => (if bt350.2 = true then ((laws_sameWords.f k bt350.1 (([2, 0] : List Int))).bind fun t357 => (some t357)) else (some false))))
set_option maxHeartbeats 8000000 in
set_option maxRecDepth 100000 in
theorem laws_sums.calls (k : Nat)  (r : Bool) (w : World) (h : laws_sums.f k  = some r) :
  Calls Try.prog 15 #[] w fun e w' => e = .returned (.bool r) ∧ Below w.heap.size w w' := by
 have HB := a0_ (Below.refl w.heap.size w)
 have H : ((laws_unit.f).bind fun t344 => ((laws_unit.f).bind fun t347 => ((impl_DecSum.f 128 false t344 t347).bind fun bt350 => (if bt350.2 = true then ((laws_sameWords.f k bt350.1 (([2, 0] : List Int))).bind fun t357 => (some t357)) else (some false))))) = some r := h
 clear h
 replace H := Option.bind_eq_some_iff.mp H
 obtain ⟨t344, A10, H⟩ := H
 replace H : ((laws_unit.f).bind fun t347 => ((impl_DecSum.f 128 false t344 t347).bind fun bt350 => (if bt350.2 = true then ((laws_sameWords.f k bt350.1 (([2, 0] : List Int))).bind fun t357 => (some t357)) else (some false)))) = some r := H
 have A1 := a0_ A10
 clear A10
 replace H := Option.bind_eq_some_iff.mp H
 obtain ⟨t347, A20, H⟩ := H
 replace H : ((impl_DecSum.f 128 false t344 t347).bind fun bt350 => (if bt350.2 = true then ((laws_sameWords.f k bt350.1 (([2, 0] : List Int))).bind fun t357 => (some t357)) else (some false))) = some r := H
 have A2 := a0_ A20
 clear A20
 replace H := Option.bind_eq_some_iff.mp H
 obtain ⟨⟨t350, t351⟩, A30, H⟩ := H
 replace H : (if t351 = true then ((laws_sameWords.f k t350 (([2, 0] : List Int))).bind fun t357 => (some t357)) else (some false)) = some r := H
 have A3 := a0_ A30
 clear A30
 by_cases c4 : t351 = true
 ·
  subst c4
  have H1 : ((laws_sameWords.f k t350 (([2, 0] : List Int))).bind fun t357 => (some t357)) = some r := by rw [if_pos rfl] at H; exact H
  clear H
  have H := H1
  clear H1
  obtain ⟨y354, hy354⟩ : ∃ y_ : List Int, y_ = (([2, 0] : List Int)) := ⟨_, rfl⟩
  replace H : ((laws_sameWords.f k t350 y354).bind fun t357 => (some t357)) = some r := by first | (rw [hy354]; with_reducible exact H) | (have H2_ := (o2_ _ _).symm.trans H; rw [hy354]; with_reducible exact H2_) | (have H2_ := (o2_ _ _).symm.trans H; with_reducible exact H2_) | with_reducible exact H | (rw [hy354]; exact H) | exact H
  have Ny354 := a0_ hy354
  clear hy354
  replace H := Option.bind_eq_some_iff.mp H
  obtain ⟨t357, A50, H⟩ := H
  replace H : (some t357) = some r := H
  have A5 := a0_ A50
  clear A50
  obtain rfl := o1_ H
  go_enter Try.func15, Try.ntmps15
  go_wp2_with (first | ((with_reducible refine gate_callee (f := 20) rfl ?_); refine goesL_ (some 4) rfl rfl Try.func20 (by kernel_rfl) rfl #[] rfl (by (try simp only [List.map_toArray, List.map_cons, List.map_nil]); first | done | rfl | (simp only [List.length_drop, List.length_take]; rfl)) ?_; (with_reducible refine (laws_unit.calls  t344 _ A1.out).mono ?_); rintro e w6 ⟨v345, rfl, ho0, hb⟩; refine ⟨_, rfl, ?_⟩; have n0_ := a0_ (Kd.R_lower ho0 (below_size (by repeat (first | (with_reducible first | exact HB.out | apply b1_ | apply b2_ | apply b3_) | exact HB.out)))); have n1_ := a0_ (below_step (by repeat (first | (with_reducible first | exact HB.out | apply b1_ | apply b2_ | apply b3_) | exact HB.out)) hb); clear HB; have HO346 := n0_; have HB := n1_; clear n0_ n1_; (try clear hb); (try clear hb2); (try clear hk); (try clear hi); (try clear ho0)) | ((with_reducible refine gate_callee (f := 20) rfl ?_); refine goesL_ (some 5) rfl rfl Try.func20 (by kernel_rfl) rfl #[] rfl (by (try simp only [List.map_toArray, List.map_cons, List.map_nil]); first | done | rfl | (simp only [List.length_drop, List.length_take]; rfl)) ?_; (with_reducible refine (laws_unit.calls  t347 _ A2.out).mono ?_); rintro e w7 ⟨v348, rfl, ho0, hb⟩; refine ⟨_, rfl, ?_⟩; have n0_ := a0_ (Kd.R_elder' (by (with_reducible repeat (first | apply r1_ | apply r2_ | apply r3_)); exact HO346.out) (Kd.R_base ho0) hb); have n1_ := a0_ (Kd.R_lower (Kd.R_new' ho0 (Kd.R_lt (by (with_reducible repeat (first | apply r1_ | apply r2_ | apply r3_)); exact HO346.out))) (below_size (by repeat (first | (with_reducible first | exact HB.out | apply b1_ | apply b2_ | apply b3_) | exact HB.out)))); have n2_ := a0_ (below_step (by repeat (first | (with_reducible first | exact HB.out | apply b1_ | apply b2_ | apply b3_) | exact HB.out)) hb); clear HO346; clear HB; have HO346 := n0_; have HO349 := n1_; have HB := n2_; clear n0_ n1_ n2_; (try clear hb); (try clear hb2); (try clear hk); (try clear hi); (try clear ho0); obtain ⟨Ao8, co8, eo8⟩ := Kd.R_slice HO346.out; subst eo8; obtain ⟨Ao9, co9, eo9⟩ := Kd.R_slice HO349.out; subst eo9) | ((with_reducible refine gate_callee (f := 18) rfl ?_); refine goesL_ (some 6) rfl rfl Try.func18 (by kernel_rfl) rfl #[.int .i64 128, .bool false, .slice Ao8 t344.length co8, .slice Ao9 t347.length co9] rfl (by (try simp only [List.map_toArray, List.map_cons, List.map_nil]); first | done | rfl | (simp only [List.length_drop, List.length_take]; rfl)) ?_; (with_reducible refine (impl_DecSum.calls 128 false _ _ t344 _ _ t347 t350 true _ ?side1 ?side2 ?side3 ?side4 A3.out).mono ?_); (case side1 => repeat (first | exact (Kd.R_reads' HO346.out).2.2 | (with_reducible refine Kd.C_alloc ?_ _) | (with_reducible refine Kd.C_drewN ?_ _) | (with_reducible refine Kd.C_drew ?_))); (case side2 => exact (Kd.R_reads' HO346.out).2.1); (case side3 => repeat (first | exact (Kd.R_reads' HO349.out).2.2 | (with_reducible refine Kd.C_alloc ?_ _) | (with_reducible refine Kd.C_drewN ?_ _) | (with_reducible refine Kd.C_drew ?_))); (case side4 => exact (Kd.R_reads' HO349.out).2.1); rintro e w10 ⟨v352, rfl, ho0, hb⟩; refine ⟨_, rfl, ?_⟩; have n0_ := a0_ (Kd.R_below (by (with_reducible repeat (first | apply r1_ | apply r2_ | apply r3_)); exact HO346.out) hb); have n1_ := a0_ (Kd.R_below (by (with_reducible repeat (first | apply r1_ | apply r2_ | apply r3_)); exact HO349.out) hb); have n2_ := a0_ ho0; have n3_ := a0_ (below_step (by repeat (first | (with_reducible first | exact HB.out | apply b1_ | apply b2_ | apply b3_) | exact HB.out)) hb); clear HO346; clear HO349; clear HB; have HO346 := n0_; have HO349 := n1_; have HO353 := n2_; have HB := n3_; clear n0_ n1_ n2_ n3_; (try clear hb); (try clear hb2); (try clear hk); (try clear hi); (try clear ho0)) | ((with_reducible refine gate_dst (N := 12) rfl ?_); (try (refine gate_guard (by rfl) ?_; dsimp only)); refine Kd.R_lit (Kd.int .u64) _ 25 ?hg (N := 12) ?hd (xs := ([2, 0] : List Int)) (inner := [.int .u64 2, .int .u64 0]) (ok := fun _ => True) (okp := fun _ => True) ?hr ?hp (fun _ hk => hk) trivial (Below.refl _ _) (Nat.le_refl _) (by simp) ?_; (case hd => rfl); (case hg => rfl); (case hr => first | (go_simp; done) | (go_simp; rfl)); (case hp => exact (Reps.one (show Kd.M (Kd.int .u64) _ _ _ 2 [.int .u64 2] from rfl) (Reps.one (show Kd.M (Kd.int .u64) _ _ _ 0 [.int .u64 0] from rfl) (Reps.none _ _)))); intro v355 w11 ho12 hb hg_ hnew_; clear hg_ hnew_; (first | rw [← Ny354.out] at ho12 | (simp only [Int.reduceToNat] at ho12; rw [← Ny354.out] at ho12)); have n0_ := a0_ (Kd.R_elder' (by (with_reducible repeat (first | apply r1_ | apply r2_ | apply r3_)); exact HO346.out) (Kd.R_base ho12) hb); have n1_ := a0_ (Kd.R_elder' (by (with_reducible repeat (first | apply r1_ | apply r2_ | apply r3_)); exact HO349.out) (Kd.R_base ho12) hb); have n2_ := a0_ (Kd.V_elder' (by (with_reducible repeat (first | apply v1_ | apply v2_ | apply v3_)); exact HO353.out) (Kd.R_base ho12) hb); have n3_ := a0_ (Kd.R_lower (Kd.R_new' (Kd.R_new' ho12 (Kd.R_lt (by (with_reducible repeat (first | apply r1_ | apply r2_ | apply r3_)); exact HO346.out))) (Kd.R_lt (by (with_reducible repeat (first | apply r1_ | apply r2_ | apply r3_)); exact HO349.out))) (below_size (by repeat (first | (with_reducible first | exact HB.out | apply b1_ | apply b2_ | apply b3_) | exact HB.out)))); have n4_ := a0_ (below_step (by repeat (first | (with_reducible first | exact HB.out | apply b1_ | apply b2_ | apply b3_) | exact HB.out)) hb); clear HO346; clear HO349; clear HO353; clear HB; have HO346 := n0_; have HO349 := n1_; have HO353 := n2_; have HO356 := n3_; have HB := n4_; clear n0_ n1_ n2_ n3_ n4_; clear hb ho12; obtain ⟨Ao13, co13, eo13⟩ := Kd.V_slice HO353.out; subst eo13; obtain ⟨Ao14, co14, eo14⟩ := Kd.R_slice HO356.out; subst eo14) | (go_at_call 8; (with_reducible refine (laws_sameWords.calls k _ _ t350 _ _ y354 t357 _ ?side1 ?side2 ?side3 ?side4 A5.out).mono ?_); (case side1 => repeat (first | exact (Kd.V_reads' HO353.out).2.2 | (with_reducible refine Kd.C_alloc ?_ _) | (with_reducible refine Kd.C_drewN ?_ _) | (with_reducible refine Kd.C_drew ?_))); (case side2 => exact (Kd.V_reads' HO353.out).2.1); (case side3 => repeat (first | exact (Kd.R_reads' HO356.out).2.2 | (with_reducible refine Kd.C_alloc ?_ _) | (with_reducible refine Kd.C_drewN ?_ _) | (with_reducible refine Kd.C_drew ?_))); (case side4 => exact (Kd.R_reads' HO356.out).2.1); rintro e w' ⟨rfl, ⟨nd, rfl⟩⟩))
  go_ret
  exact ⟨by first | rfl | (simp [e1_, e2_] <;> rfl) | (simp [*, e1_, e2_] <;> rfl), by repeat (first | (with_reducible first | exact HB.out | apply b1_ | apply b2_ | apply b3_) | exact HB.out)⟩
 ·
  replace c4 := Bool.eq_false_iff.mpr c4
  subst c4
  have H1 : (some false) = some r := by rw [if_neg (show ¬ (false = true) by decide)] at H; exact H
  clear H
  have H := H1
  clear H1
  obtain rfl := o1_ H
  go_enter Try.func15, Try.ntmps15
  go_wp2_with (first | ((with_reducible refine gate_callee (f := 20) rfl ?_); refine goesL_ (some 4) rfl rfl Try.func20 (by kernel_rfl) rfl #[] rfl (by (try simp only [List.map_toArray, List.map_cons, List.map_nil]); first | done | rfl | (simp only [List.length_drop, List.length_take]; rfl)) ?_; (with_reducible refine (laws_unit.calls  t344 _ A1.out).mono ?_); rintro e w15 ⟨v345, rfl, ho0, hb⟩; refine ⟨_, rfl, ?_⟩; have n0_ := a0_ (Kd.R_lower ho0 (below_size (by repeat (first | (with_reducible first | exact HB.out | apply b1_ | apply b2_ | apply b3_) | exact HB.out)))); have n1_ := a0_ (below_step (by repeat (first | (with_reducible first | exact HB.out | apply b1_ | apply b2_ | apply b3_) | exact HB.out)) hb); clear HB; have HO346 := n0_; have HB := n1_; clear n0_ n1_; (try clear hb); (try clear hb2); (try clear hk); (try clear hi); (try clear ho0)) | ((with_reducible refine gate_callee (f := 20) rfl ?_); refine goesL_ (some 5) rfl rfl Try.func20 (by kernel_rfl) rfl #[] rfl (by (try simp only [List.map_toArray, List.map_cons, List.map_nil]); first | done | rfl | (simp only [List.length_drop, List.length_take]; rfl)) ?_; (with_reducible refine (laws_unit.calls  t347 _ A2.out).mono ?_); rintro e w16 ⟨v348, rfl, ho0, hb⟩; refine ⟨_, rfl, ?_⟩; have n0_ := a0_ (Kd.R_elder' (by (with_reducible repeat (first | apply r1_ | apply r2_ | apply r3_)); exact HO346.out) (Kd.R_base ho0) hb); have n1_ := a0_ (Kd.R_lower (Kd.R_new' ho0 (Kd.R_lt (by (with_reducible repeat (first | apply r1_ | apply r2_ | apply r3_)); exact HO346.out))) (below_size (by repeat (first | (with_reducible first | exact HB.out | apply b1_ | apply b2_ | apply b3_) | exact HB.out)))); have n2_ := a0_ (below_step (by repeat (first | (with_reducible first | exact HB.out | apply b1_ | apply b2_ | apply b3_) | exact HB.out)) hb); clear HO346; clear HB; have HO346 := n0_; have HO349 := n1_; have HB := n2_; clear n0_ n1_ n2_; (try clear hb); (try clear hb2); (try clear hk); (try clear hi); (try clear ho0); obtain ⟨Ao17, co17, eo17⟩ := Kd.R_slice HO346.out; subst eo17; obtain ⟨Ao18, co18, eo18⟩ := Kd.R_slice HO349.out; subst eo18) | ((with_reducible refine gate_callee (f := 18) rfl ?_); refine goesL_ (some 6) rfl rfl Try.func18 (by kernel_rfl) rfl #[.int .i64 128, .bool false, .slice Ao17 t344.length co17, .slice Ao18 t347.length co18] rfl (by (try simp only [List.map_toArray, List.map_cons, List.map_nil]); first | done | rfl | (simp only [List.length_drop, List.length_take]; rfl)) ?_; (with_reducible refine (impl_DecSum.calls 128 false _ _ t344 _ _ t347 t350 false _ ?side1 ?side2 ?side3 ?side4 A3.out).mono ?_); (case side1 => repeat (first | exact (Kd.R_reads' HO346.out).2.2 | (with_reducible refine Kd.C_alloc ?_ _) | (with_reducible refine Kd.C_drewN ?_ _) | (with_reducible refine Kd.C_drew ?_))); (case side2 => exact (Kd.R_reads' HO346.out).2.1); (case side3 => repeat (first | exact (Kd.R_reads' HO349.out).2.2 | (with_reducible refine Kd.C_alloc ?_ _) | (with_reducible refine Kd.C_drewN ?_ _) | (with_reducible refine Kd.C_drew ?_))); (case side4 => exact (Kd.R_reads' HO349.out).2.1); rintro e w19 ⟨v352, rfl, ho0, hb⟩; refine ⟨_, rfl, ?_⟩; have n0_ := a0_ (Kd.R_below (by (with_reducible repeat (first | apply r1_ | apply r2_ | apply r3_)); exact HO346.out) hb); have n1_ := a0_ (Kd.R_below (by (with_reducible repeat (first | apply r1_ | apply r2_ | apply r3_)); exact HO349.out) hb); have n2_ := a0_ ho0; have n3_ := a0_ (below_step (by repeat (first | (with_reducible first | exact HB.out | apply b1_ | apply b2_ | apply b3_) | exact HB.out)) hb); clear HO346; clear HO349; clear HB; have HO346 := n0_; have HO349 := n1_; have HO353 := n2_; have HB := n3_; clear n0_ n1_ n2_ n3_; (try clear hb); (try clear hb2); (try clear hk); (try clear hi); (try clear ho0)))
  go_ret
  exact ⟨by first | rfl | (simp [e1_, e2_] <;> rfl) | (simp [*, e1_, e2_] <;> rfl), by repeat (first | (with_reducible first | exact HB.out | apply b1_ | apply b2_ | apply b3_) | exact HB.out)⟩

/-! ### laws_FnDecSum: function 5 -/
mutual
def laws_FnDecSum.j0 : Nat → Int → Bool → List Int → List Int → Bool → Option (Bool)
 | 0, _, _, _, _, _ => none
 | k + 1, x0, x1, x2, x3, x24 => if x24 = true then (some true) else ((laws_decimal.f k x0 x2).bind fun bt358 => ((laws_decimal.f k x0 x3).bind fun bt364 => (if bt358.2.2 = true then (laws_FnDecSum.j1 k x0 x1 x2 x3 (!bt364.2.2) bt358.1 bt358.2.1 bt364.1 bt364.2.1) else (laws_FnDecSum.j1 k x0 x1 x2 x3 true bt358.1 bt358.2.1 bt364.1 bt364.2.1))))
def laws_FnDecSum.j1 : Nat → Int → Bool → List Int → List Int → Bool → Bool → List Int → Bool → List Int → Option (Bool)
 | 0, _, _, _, _, _, _, _, _, _ => none
 | k + 1, x0, x1, x2, x3, x42, x364000, x364001, x370000, x370001 => if x42 = true then ((laws_sums.f k).bind fun t370 => (some t370)) else (if x1 = true then ((spec_Wide_Negated.f k x370000 x370001).bind fun bt371 => (laws_FnDecSum.j2 k x0 x1 x2 x3 x364000 x364001 bt371.1 bt371.2)) else (laws_FnDecSum.j2 k x0 x1 x2 x3 x364000 x364001 x370000 x370001))
def laws_FnDecSum.j2 : Nat → Int → Bool → List Int → List Int → Bool → List Int → Bool → List Int → Option (Bool)
 | 0, _, _, _, _, _, _, _, _ => none
 | k + 1, x0, x1, x2, x3, x364000, x364001, x370000, x370001 => (spec_WideAdd.f k x364000 x364001 x370000 x370001).bind fun bt375 => ((laws_wrapped.f k x0 bt375.1 bt375.2).bind fun bt379 => ((impl_DecSum.f x0 x1 x2 x3).bind fun bt383 => (if bt383.2 = true then ((laws_sameWords.f k bt383.1 bt379.1).bind fun t387 => (if t387 = true then ((laws_sums.f k).bind fun t388 => (some t388)) else (some false))) else (some false))))
end
def laws_FnDecSum.f (k : Nat) (a0 : Int) (a1 : Bool) (l2 : List Int) (l3 : List Int) : Option (Bool) := if (l2.length : Int) > 2147483647 then (laws_FnDecSum.j0 k a0 a1 l2 l3 true) else (laws_FnDecSum.j0 k a0 a1 l2 l3 (decide ((l3.length : Int) > 2147483647)))
set_option maxHeartbeats 8000000 in
set_option maxRecDepth 100000 in
theorem laws_FnDecSum.calls (k : Nat) (a0 : Int) (a1 : Bool) (A2 : Option Addr) (c2 : Nat) (l2 : List Int) (A3 : Option Addr) (c3 : Nat) (l3 : List Int) (r : Bool) (w : World) (hr2 : Kd.C (Kd.int .u64) w A2 l2.length l2) (hc2 : l2.length ≤ c2) (hr3 : Kd.C (Kd.int .u64) w A3 l3.length l3) (hc3 : l3.length ≤ c3) (h : laws_FnDecSum.f k a0 a1 l2 l3 = some r) :
  Calls Try.prog 5 #[.int .i64 a0, .bool a1, .slice A2 l2.length c2, .slice A3 l3.length c3] w fun e w' => e = .returned (.bool r) ∧ Below w.heap.size w w' := by
 have hu29 := Try.underlying29
 have HR2 := a0_ hr2
 have HC2 := a0_ hc2
 clear hr2 hc2
 have HR3 := a0_ hr3
 have HC3 := a0_ hc3
 clear hr3 hc3
 have HB := a0_ (Below.refl w.heap.size w)
 have H : (if (l2.length : Int) > 2147483647 then (laws_FnDecSum.j0 k a0 a1 l2 l3 true) else (laws_FnDecSum.j0 k a0 a1 l2 l3 (decide ((l3.length : Int) > 2147483647)))) = some r := h
 clear h
 have HC5 := a0_ H
 clear H
 go_enter Try.func5, Try.ntmps5
 go_upto_region 1 with (fail)
 go_cut [24] (fun v24 wc => ∃ (kq : Nat) (x24_4 : Bool), v24 = .bool x24_4 ∧ Aside0 (laws_FnDecSum.j0 kq a0 a1 l2 l3 x24_4 = some r) ∧ Aside0 (kq ≤ k) ∧ Aside0 (Below w.heap.size w wc))
 case first =>
  have H := HC5.out
  clear HC5
  by_cases c6 : (l2.length : Int) > 2147483647
  ·
   rw [if_pos c6] at H
   have c6b0 : decide (2147483647 < (l2.length : Int)) = true := d2_ c6
   have c6b1 : decide (2147483647 < l2.length) = true := d2_ (by omega)
   clear c6
   (first | rw [c6b0] | (simp only [i64_w, i32_w]; rw [c6b0]) | skip)
   have H' := a0_ H
   clear H
   go_wp2
   go_meet
   case rel => exact ⟨_, (true), (by first | rfl | (simp; done) | (simp [*]; done)), H', ⟨by first | omega | exact Nat.le_refl _⟩, ⟨by repeat (first | (with_reducible first | exact HB.out | apply b1_ | apply b2_ | apply b3_) | exact HB.out)⟩⟩
  ·
   rw [if_neg c6] at H
   have c6b0 : decide (2147483647 < (l2.length : Int)) = false := d3_ c6
   have c6b1 : decide (2147483647 < l2.length) = false := d3_ (by omega)
   clear c6
   (first | rw [c6b0] | (simp only [i64_w, i32_w]; rw [c6b0]) | skip)
   have H' := a0_ H
   clear H
   go_wp2
   go_meet
   case rel => exact ⟨_, (decide ((l3.length : Int) > 2147483647)), (by first | rfl | (simp; done) | (simp [*]; done)), H', ⟨by first | omega | exact Nat.le_refl _⟩, ⟨by repeat (first | (with_reducible first | exact HB.out | apply b1_ | apply b2_ | apply b3_) | exact HB.out)⟩⟩
 case rest =>
  clear HC5
  try clear c2
  try clear p2
  try clear c3
  try clear c5
  try clear c6
  try clear c6b0
  try clear c6b1
  obtain ⟨kq, x24_4, rfl, HA, HJ4, HB⟩ := hcut
  cases kq with
  | zero => exact absurd HA.out (by simp [laws_FnDecSum.j0])
  | succ kj4 =>
   have H := HA.out
   clear HA
   simp only [laws_FnDecSum.j0] at H
   by_cases c7 : x24_4 = true
   ·
    subst c7
    have H1 : (some true) = some r := by rw [if_pos rfl] at H; exact H
    clear H
    have H := H1
    clear H1
    obtain rfl := o1_ H
    go_wp2
    go_ret
    exact ⟨by first | rfl | (simp [e1_, e2_] <;> rfl) | (simp [*, e1_, e2_] <;> rfl), by repeat (first | (with_reducible first | exact HB.out | apply b1_ | apply b2_ | apply b3_) | exact HB.out)⟩
   ·
    replace c7 := Bool.eq_false_iff.mpr c7
    subst c7
    have H1 : ((laws_decimal.f kj4 a0 l2).bind fun bt358 => ((laws_decimal.f kj4 a0 l3).bind fun bt364 => (if bt358.2.2 = true then (laws_FnDecSum.j1 kj4 a0 a1 l2 l3 (!bt364.2.2) bt358.1 bt358.2.1 bt364.1 bt364.2.1) else (laws_FnDecSum.j1 kj4 a0 a1 l2 l3 true bt358.1 bt358.2.1 bt364.1 bt364.2.1)))) = some r := by rw [if_neg (show ¬ (false = true) by decide)] at H; exact H
    clear H
    have H := H1
    clear H1
    replace H := Option.bind_eq_some_iff.mp H
    obtain ⟨⟨t358, t359, t362⟩, A80, H⟩ := H
    replace H : ((laws_decimal.f kj4 a0 l3).bind fun bt364 => (if t362 = true then (laws_FnDecSum.j1 kj4 a0 a1 l2 l3 (!bt364.2.2) t358 t359 bt364.1 bt364.2.1) else (laws_FnDecSum.j1 kj4 a0 a1 l2 l3 true t358 t359 bt364.1 bt364.2.1))) = some r := H
    have A8 := a0_ A80
    clear A80
    replace H := Option.bind_eq_some_iff.mp H
    obtain ⟨⟨t364, t365, t368⟩, A90, H⟩ := H
    replace H : (if t362 = true then (laws_FnDecSum.j1 kj4 a0 a1 l2 l3 (!t368) t358 t359 t364 t365) else (laws_FnDecSum.j1 kj4 a0 a1 l2 l3 true t358 t359 t364 t365)) = some r := H
    have A9 := a0_ A90
    clear A90
    have HC10 := a0_ H
    clear H
    go_upto_region 5 with (first | ((with_reducible refine gate_callee (f := 9) rfl ?_); refine goesL_ (some 28) rfl rfl Try.func9 (by kernel_rfl) rfl #[.int .i64 a0, .slice A2 l2.length c2] rfl (by (try simp only [List.map_toArray, List.map_cons, List.map_nil]); first | done | rfl | (simp only [List.length_drop, List.length_take]; rfl)) ?_; (with_reducible refine (laws_decimal.calls kj4 a0 _ _ l2 t358 t359 t362 _ ?side1 ?side2 A8.out).mono ?_); (case side1 => repeat (first | exact (Kd.C_below HR2.out HB.out) | (with_reducible refine Kd.C_alloc ?_ _) | (with_reducible refine Kd.C_drewN ?_ _) | (with_reducible refine Kd.C_drew ?_))); (case side2 => exact HC2.out); rintro e w11 ⟨v360, rfl, ho0, hb⟩; refine ⟨_, rfl, ?_⟩; have n0_ := a0_ (Kd.V_lower (v4_ (ok' := fun k_ => True) ho0 (fun k_ hk_ => trivial)) (below_size (by repeat (first | (with_reducible first | exact HB.out | apply b1_ | apply b2_ | apply b3_) | exact HB.out)))); have n1_ := a0_ (below_step (by repeat (first | (with_reducible first | exact HB.out | apply b1_ | apply b2_ | apply b3_) | exact HB.out)) hb); clear HB; have HO361 := n0_; have HB := n1_; clear n0_ n1_; (try clear hb); (try clear hb2); (try clear hk); (try clear hi); (try clear ho0)) | ((with_reducible refine gate_dst (N := 9) rfl ?_); (try (refine gate_guard (by rfl) ?_; dsimp only)); refine box_event ?hg (N := 9) ?hd (cs := #[.bool false, .slice none 0 0]) (t := 29) ?hr ?_; (case hd => rfl); (case hg => rfl); (case hr => first | (go_simp; done) | (go_simp; rfl)); intro gb363 hg w12 hbox hb; have n0_ := a0_ (Kd.V_below (Kd.V_elderB (by (with_reducible repeat (first | apply v1_ | apply v2_ | apply v3_)); exact HO361.out) gb363 (Nat.le_of_eq hg.symm)) hb); have n1_ := a0_ (below_step (by repeat (first | (with_reducible first | exact HB.out | apply b1_ | apply b2_ | apply b3_) | exact HB.out)) hb); have n2_ := a0_ (hbox); have n3_ := a0_ ((by rw [hg]; exact (below_size (by repeat (first | (with_reducible first | exact HB.out | apply b1_ | apply b2_ | apply b3_) | exact HB.out))) : w.heap.size ≤ gb363)); have n4_ := a0_ ((by rw [hg]; exact (below_size (by repeat (first | (with_reducible first | exact HB.out | apply b1_ | apply b2_ | apply b3_) | exact HB.out))) : w.heap.size ≤ gb363)); clear HO361; clear HB; have HO361 := n0_; have HB := n1_; have BK363 := n2_; have GW363 := n3_; have GE363 := n4_; clear n0_ n1_ n2_ n3_ n4_; clear hb hbox hg; have hcz13_0 : w12.cell? ⟨gb363, 0, none⟩ = some (.bool false) := (blk_cell BK363.out 0).trans rfl; have hcz13_1 : w12.cell? ⟨gb363, 1, none⟩ = some (.slice none 0 0) := (blk_cell BK363.out 1).trans rfl; have hfz13_0 := blk_frozen BK363.out 0; have hfz13_1 := blk_frozen BK363.out 1; obtain ⟨Ao14, co14, eo14⟩ := Kd.V_slice HO361.out; subst eo14) | ((with_reducible refine gate_callee (f := 9) rfl ?_); refine goesL_ (some 34) rfl rfl Try.func9 (by kernel_rfl) rfl #[.int .i64 a0, .slice A3 l3.length c3] rfl (by (try simp only [List.map_toArray, List.map_cons, List.map_nil]); first | done | rfl | (simp only [List.length_drop, List.length_take]; rfl)) ?_; (with_reducible refine (laws_decimal.calls kj4 a0 _ _ l3 t364 t365 t368 _ ?side1 ?side2 A9.out).mono ?_); (case side1 => exact Kd.C_below HR3.out (by repeat (first | (with_reducible first | exact HB.out | apply b1_ | apply b2_ | apply b3_ | refine b4_ ?_ GE363.out) | exact HB.out))); (case side2 => exact HC3.out); rintro e w15 ⟨v366, rfl, ho0, hb⟩; refine ⟨_, rfl, ?_⟩; have n0_ := a0_ (Kd.V_below (by (with_reducible repeat (first | apply v1_ | apply v2_ | apply v3_)); exact (v4_ (v5_ (p := ⟨gb363, 1, none⟩) (v5_ (p := ⟨gb363, 0, none⟩) (v4_ HO361.out (fun k_ hk => (⟨hk, hk.2⟩ : _ ∧ k_ ≠ gb363))) (fun _ hk => hk.2) (.bool t358)) (fun _ hk => hk.2) (.slice Ao14 t359.length co14)) (fun _ h_ => h_.1))) hb); have n1_ := a0_ (Kd.V_lower (v4_ (ok' := fun k_ => k_ ≠ gb363) ho0 (fun k_ hk_ => (Kd.freshB (g := gb363) (o := .cells #[.bool t358, .slice Ao14 t359.length co14] 29 (0, 0)) (by (with_reducible repeat (first | refine k1_ ?_ _ | refine k2_ ?_ | refine k3_ ?_ _)); refine blk_put (cs := #[.bool t358, .slice none 0 0]) ?_ 1 _ rfl; (with_reducible repeat (first | refine k1_ ?_ _ | refine k2_ ?_ | refine k3_ ?_ _)); refine blk_put (cs := #[.bool false, .slice none 0 0]) ?_ 0 _ rfl; (with_reducible repeat (first | refine k1_ ?_ _ | refine k2_ ?_ | refine k3_ ?_ _)); exact BK363.out) k_ hk_))) (below_size (by repeat (first | (with_reducible first | exact HB.out | apply b1_ | apply b2_ | apply b3_ | refine b4_ ?_ GE363.out) | exact HB.out)))); have n2_ := a0_ (blk_below (g := gb363) (o := .cells #[.bool t358, .slice Ao14 t359.length co14] 29 (0, 0)) (by (with_reducible repeat (first | refine k1_ ?_ _ | refine k2_ ?_ | refine k3_ ?_ _)); refine blk_put (cs := #[.bool t358, .slice none 0 0]) ?_ 1 _ rfl; (with_reducible repeat (first | refine k1_ ?_ _ | refine k2_ ?_ | refine k3_ ?_ _)); refine blk_put (cs := #[.bool false, .slice none 0 0]) ?_ 0 _ rfl; (with_reducible repeat (first | refine k1_ ?_ _ | refine k2_ ?_ | refine k3_ ?_ _)); exact BK363.out) hb); have n3_ := a0_ (below_step (by repeat (first | (with_reducible first | exact HB.out | apply b1_ | apply b2_ | apply b3_ | refine b4_ ?_ GE363.out) | exact HB.out)) hb); clear HO361; clear BK363; clear HB; have HO361 := n0_; have HO367 := n1_; have BK363 := n2_; have HB := n3_; clear n0_ n1_ n2_ n3_; (try clear hb); (try clear hb2); (try clear hk); (try clear hi); (try clear ho0)) | ((with_reducible refine gate_dst (N := 11) rfl ?_); (try (refine gate_guard (by rfl) ?_; dsimp only)); refine box_event ?hg (N := 11) ?hd (cs := #[.bool false, .slice none 0 0]) (t := 29) ?hr ?_; (case hd => rfl); (case hg => rfl); (case hr => first | (go_simp; done) | (go_simp; rfl)); intro gb369 hg w16 hbox hb; have n0_ := a0_ (Kd.V_below (Kd.V_elderB (by (with_reducible repeat (first | apply v1_ | apply v2_ | apply v3_)); exact HO361.out) gb369 (Nat.le_of_eq hg.symm)) hb); have n1_ := a0_ (Kd.V_below (Kd.V_elderB (by (with_reducible repeat (first | apply v1_ | apply v2_ | apply v3_)); exact HO367.out) gb369 (Nat.le_of_eq hg.symm)) hb); have n2_ := a0_ (blk_below (g := gb363) (o := .cells #[.bool t358, .slice Ao14 t359.length co14] 29 (0, 0)) (by (with_reducible repeat (first | refine k1_ ?_ _ | refine k2_ ?_ | refine k3_ ?_ _)); exact BK363.out) hb); have n3_ := a0_ (below_step (by repeat (first | (with_reducible first | exact HB.out | apply b1_ | apply b2_ | apply b3_ | refine b4_ ?_ GE363.out) | exact HB.out)) hb); have n4_ := a0_ (hbox); have n5_ := a0_ ((by rw [hg]; exact (below_size (by repeat (first | (with_reducible first | exact HB.out | apply b1_ | apply b2_ | apply b3_ | refine b4_ ?_ GE363.out) | exact HB.out))) : w.heap.size ≤ gb369)); have n6_ := a0_ ((by rw [hg]; exact (below_size (by repeat (first | (with_reducible first | exact HB.out | apply b1_ | apply b2_ | apply b3_ | refine b4_ ?_ GE363.out) | exact HB.out))) : w.heap.size ≤ gb369)); have n7_ := a0_ ((by rw [hg]; exact Nat.ne_of_lt (blk_lt (g := gb363) (o := .cells #[.bool t358, .slice Ao14 t359.length co14] 29 (0, 0)) (by (with_reducible repeat (first | refine k1_ ?_ _ | refine k2_ ?_ | refine k3_ ?_ _)); exact BK363.out)) : gb363 ≠ gb369)); have n8_ := a0_ ((by rw [hg]; exact Nat.ne_of_gt (blk_lt (g := gb363) (o := .cells #[.bool t358, .slice Ao14 t359.length co14] 29 (0, 0)) (by (with_reducible repeat (first | refine k1_ ?_ _ | refine k2_ ?_ | refine k3_ ?_ _)); exact BK363.out)) : gb369 ≠ gb363)); clear HO361; clear HO367; clear BK363; clear HB; have HO361 := n0_; have HO367 := n1_; have BK363 := n2_; have HB := n3_; have BK369 := n4_; have GW369 := n5_; have GE369 := n6_; have NB363_369 := n7_; have NB369_363 := n8_; clear n0_ n1_ n2_ n3_ n4_ n5_ n6_ n7_ n8_; clear hb hbox hg; have hnb17 := NB369_363.out; have hnc17 := NB363_369.out; have hcz18_0 : w16.cell? ⟨gb369, 0, none⟩ = some (.bool false) := (blk_cell BK369.out 0).trans rfl; have hcz18_1 : w16.cell? ⟨gb369, 1, none⟩ = some (.slice none 0 0) := (blk_cell BK369.out 1).trans rfl; have hfz18_0 := blk_frozen BK369.out 0; have hfz18_1 := blk_frozen BK369.out 1; obtain ⟨Ao19, co19, eo19⟩ := Kd.V_slice HO367.out; subst eo19))
    (try simp only [Act.put, s1_, s2_, s3_])
    go_cut [42] (fun v42 wc => ∃ (kq : Nat) (x42_9 : Bool), v42 = .bool x42_9 ∧ Aside0 (laws_FnDecSum.j1 kq a0 a1 l2 l3 x42_9 t358 t359 t364 t365 = some r) ∧ Aside0 (kq ≤ kj4) ∧ Aside0 (Kd.V (Kd.int .u32) 96 wc w.heap.size (fun k_ => k_ ≠ gb363 ∧ k_ ≠ gb369) (.slice Ao14 t359.length co14) t359) ∧ Aside0 (Kd.V (Kd.int .u32) 96 wc w.heap.size (fun k_ => k_ ≠ gb363 ∧ k_ ≠ gb369) (.slice Ao19 t365.length co19) t365) ∧ Aside0 (wc.heap[gb363]? = some (.cells #[.bool t358, (.slice Ao14 t359.length co14)] 29 (0, 0))) ∧ Aside0 (wc.heap[gb369]? = some (.cells #[.bool t364, (.slice Ao19 t365.length co19)] 29 (0, 0))) ∧ Aside0 (Below w.heap.size w wc))
    case first =>
     have H := HC10.out
     clear HC10
     by_cases c20 : t362 = true
     ·
      subst c20
      have H1 : (laws_FnDecSum.j1 kj4 a0 a1 l2 l3 (!t368) t358 t359 t364 t365) = some r := by rw [if_pos rfl] at H; exact H
      clear H
      have H := H1
      clear H1
      have H' := a0_ H
      clear H
      go_wp2
      go_meet
      case rel => exact ⟨_, (!t368), (by first | rfl | (simp; done) | (simp [*]; done)), H', ⟨by have := HJ4.out; first | omega | exact Nat.le_refl _⟩, ⟨by (with_reducible repeat (first | apply v1_ | apply v2_ | apply v3_)); exact v4_ (v5_ (p := ⟨gb369, 1, none⟩) (v5_ (p := ⟨gb369, 0, none⟩) (v4_ HO361.out (fun k_ hk => (⟨hk, hk.2⟩ : _ ∧ k_ ≠ gb369))) (fun _ hk => hk.2) (.bool t364)) (fun _ hk => hk.2) (.slice Ao19 t365.length co19)) (fun _ hk => ⟨hk.1.1.2, hk.1.2⟩)⟩, ⟨by (with_reducible repeat (first | apply v1_ | apply v2_ | apply v3_)); exact v4_ (v5_ (p := ⟨gb369, 1, none⟩) (v5_ (p := ⟨gb369, 0, none⟩) (v4_ HO367.out (fun k_ hk => (⟨hk, hk.2⟩ : _ ∧ k_ ≠ gb369))) (fun _ hk => hk.2) (.bool t364)) (fun _ hk => hk.2) (.slice Ao19 t365.length co19)) (fun _ hk => ⟨hk.1.1, hk.1.2⟩)⟩, ⟨by (with_reducible repeat (first | refine k1_ ?_ _ | refine k2_ ?_ | refine k3_ ?_ _)); refine blk_far ?_ NB363_369.out _; (with_reducible repeat (first | refine k1_ ?_ _ | refine k2_ ?_ | refine k3_ ?_ _)); refine blk_far ?_ NB363_369.out _; (with_reducible repeat (first | refine k1_ ?_ _ | refine k2_ ?_ | refine k3_ ?_ _)); exact BK363.out⟩, ⟨by (with_reducible repeat (first | refine k1_ ?_ _ | refine k2_ ?_ | refine k3_ ?_ _)); refine blk_put (cs := #[.bool t364, .slice none 0 0]) ?_ 1 _ rfl; (with_reducible repeat (first | refine k1_ ?_ _ | refine k2_ ?_ | refine k3_ ?_ _)); refine blk_put (cs := #[.bool false, .slice none 0 0]) ?_ 0 _ rfl; (with_reducible repeat (first | refine k1_ ?_ _ | refine k2_ ?_ | refine k3_ ?_ _)); exact BK369.out⟩, ⟨by repeat (first | (with_reducible first | exact HB.out | apply b1_ | apply b2_ | apply b3_ | refine b4_ ?_ GE363.out | refine b4_ ?_ GE369.out) | exact HB.out)⟩⟩
     ·
      replace c20 := Bool.eq_false_iff.mpr c20
      subst c20
      have H1 : (laws_FnDecSum.j1 kj4 a0 a1 l2 l3 true t358 t359 t364 t365) = some r := by rw [if_neg (show ¬ (false = true) by decide)] at H; exact H
      clear H
      have H := H1
      clear H1
      have H' := a0_ H
      clear H
      go_wp2
      go_meet
      case rel => exact ⟨_, (true), (by first | rfl | (simp; done) | (simp [*]; done)), H', ⟨by have := HJ4.out; first | omega | exact Nat.le_refl _⟩, ⟨by (with_reducible repeat (first | apply v1_ | apply v2_ | apply v3_)); exact v4_ (v5_ (p := ⟨gb369, 1, none⟩) (v5_ (p := ⟨gb369, 0, none⟩) (v4_ HO361.out (fun k_ hk => (⟨hk, hk.2⟩ : _ ∧ k_ ≠ gb369))) (fun _ hk => hk.2) (.bool t364)) (fun _ hk => hk.2) (.slice Ao19 t365.length co19)) (fun _ hk => ⟨hk.1.1.2, hk.1.2⟩)⟩, ⟨by (with_reducible repeat (first | apply v1_ | apply v2_ | apply v3_)); exact v4_ (v5_ (p := ⟨gb369, 1, none⟩) (v5_ (p := ⟨gb369, 0, none⟩) (v4_ HO367.out (fun k_ hk => (⟨hk, hk.2⟩ : _ ∧ k_ ≠ gb369))) (fun _ hk => hk.2) (.bool t364)) (fun _ hk => hk.2) (.slice Ao19 t365.length co19)) (fun _ hk => ⟨hk.1.1, hk.1.2⟩)⟩, ⟨by (with_reducible repeat (first | refine k1_ ?_ _ | refine k2_ ?_ | refine k3_ ?_ _)); refine blk_far ?_ NB363_369.out _; (with_reducible repeat (first | refine k1_ ?_ _ | refine k2_ ?_ | refine k3_ ?_ _)); refine blk_far ?_ NB363_369.out _; (with_reducible repeat (first | refine k1_ ?_ _ | refine k2_ ?_ | refine k3_ ?_ _)); exact BK363.out⟩, ⟨by (with_reducible repeat (first | refine k1_ ?_ _ | refine k2_ ?_ | refine k3_ ?_ _)); refine blk_put (cs := #[.bool t364, .slice none 0 0]) ?_ 1 _ rfl; (with_reducible repeat (first | refine k1_ ?_ _ | refine k2_ ?_ | refine k3_ ?_ _)); refine blk_put (cs := #[.bool false, .slice none 0 0]) ?_ 0 _ rfl; (with_reducible repeat (first | refine k1_ ?_ _ | refine k2_ ?_ | refine k3_ ?_ _)); exact BK369.out⟩, ⟨by repeat (first | (with_reducible first | exact HB.out | apply b1_ | apply b2_ | apply b3_ | refine b4_ ?_ GE363.out | refine b4_ ?_ GE369.out) | exact HB.out)⟩⟩
    case rest =>
     clear HC10
     try clear c1
     try clear c2
     try clear p2
     try clear c3
     try clear c5
     try clear c6
     try clear c6b0
     try clear c6b1
     try clear c7
     try clear c9
     try clear c17
     try clear c20
     try clear hcz13_0
     try clear hcz13_1
     try clear hcz18_0
     try clear hcz18_1
     try clear hfz13_0
     try clear hfz13_1
     try clear hfz18_0
     try clear hfz18_1
     try clear p2
     obtain ⟨kq, x42_9, rfl, HA, HJ9, HO_364001, HO_370001, BK363, BK369, HB⟩ := hcut
     cases kq with
     | zero => exact absurd HA.out (by simp [laws_FnDecSum.j1])
     | succ kj9 =>
      have H := HA.out
      clear HA
      simp only [laws_FnDecSum.j1] at H
      by_cases c21 : x42_9 = true
      ·
       subst c21
       have H1 : ((laws_sums.f kj9).bind fun t370 => (some t370)) = some r := by rw [if_pos rfl] at H; exact H
       clear H
       have H := H1
       clear H1
       replace H := Option.bind_eq_some_iff.mp H
       obtain ⟨t370, A220, H⟩ := H
       replace H : (some t370) = some r := H
       have A22 := a0_ A220
       clear A220
       obtain rfl := o1_ H
       go_wp2_with (first | ((with_reducible refine gate_callee (f := 15) rfl ?_); refine goesL_ (some 43) rfl rfl Try.func15 (by kernel_rfl) rfl #[] rfl (by (try simp only [List.map_toArray, List.map_cons, List.map_nil]); first | done | rfl | (simp only [List.length_drop, List.length_take]; rfl)) ?_; (with_reducible refine (laws_sums.calls kj9  t370 _ A22.out).mono ?_); rintro e w23 ⟨rfl, hb⟩; refine ⟨_, rfl, ?_⟩; have n0_ := a0_ (Kd.V_below (by (with_reducible repeat (first | apply v1_ | apply v2_ | apply v3_)); exact HO_364001.out) hb); have n1_ := a0_ (Kd.V_below (by (with_reducible repeat (first | apply v1_ | apply v2_ | apply v3_)); exact HO_370001.out) hb); have n2_ := a0_ (blk_below (g := gb363) (o := .cells #[.bool t358, .slice Ao14 t359.length co14] 29 (0, 0)) (by (with_reducible repeat (first | refine k1_ ?_ _ | refine k2_ ?_ | refine k3_ ?_ _)); exact BK363.out) hb); have n3_ := a0_ (blk_below (g := gb369) (o := .cells #[.bool t364, .slice Ao19 t365.length co19] 29 (0, 0)) (by (with_reducible repeat (first | refine k1_ ?_ _ | refine k2_ ?_ | refine k3_ ?_ _)); exact BK369.out) hb); have n4_ := a0_ (below_step (by repeat (first | (with_reducible first | exact HB.out | apply b1_ | apply b2_ | apply b3_ | refine b4_ ?_ GE363.out | refine b4_ ?_ GE369.out) | exact HB.out)) hb); clear HO_364001; clear HO_370001; clear BK363; clear BK369; clear HB; have HO_364001 := n0_; have HO_370001 := n1_; have BK363 := n2_; have BK369 := n3_; have HB := n4_; clear n0_ n1_ n2_ n3_ n4_; (try clear hb); (try clear hb2); (try clear hk); (try clear hi)))
       go_ret
       exact ⟨by first | rfl | (simp [e1_, e2_] <;> rfl) | (simp [*, e1_, e2_] <;> rfl), by repeat (first | (with_reducible first | exact HB.out | apply b1_ | apply b2_ | apply b3_ | refine b4_ ?_ GE363.out | refine b4_ ?_ GE369.out) | exact HB.out)⟩
      ·
       replace c21 := Bool.eq_false_iff.mpr c21
       subst c21
       have H1 : (if a1 = true then ((spec_Wide_Negated.f kj9 t364 t365).bind fun bt371 => (laws_FnDecSum.j2 kj9 a0 a1 l2 l3 t358 t359 bt371.1 bt371.2)) else (laws_FnDecSum.j2 kj9 a0 a1 l2 l3 t358 t359 t364 t365)) = some r := by rw [if_neg (show ¬ (false = true) by decide)] at H; exact H
       clear H
       have H := H1
       clear H1
       have HC24 := a0_ H
       clear H
       go_upto_if 44 with (fail)
       go_cut [] (fun wc => ∃ (kq : Nat) (x370000_23 : Bool) (x370001_23 : List Int) (u370001 : Value), Aside0 (laws_FnDecSum.j2 kq a0 a1 l2 l3 t358 t359 x370000_23 x370001_23 = some r) ∧ Aside0 (kq ≤ kj9) ∧ Aside0 (Kd.V (Kd.int .u32) 96 wc w.heap.size (fun k_ => k_ ≠ gb363 ∧ k_ ≠ gb369) (.slice Ao14 t359.length co14) t359) ∧ Aside0 (Kd.V (Kd.int .u32) 96 wc w.heap.size (fun k_ => k_ ≠ gb363 ∧ k_ ≠ gb369) u370001 x370001_23) ∧ Aside0 (wc.heap[gb363]? = some (.cells #[.bool t358, (.slice Ao14 t359.length co14)] 29 (0, 0))) ∧ Aside0 (wc.heap[gb369]? = some (.cells #[.bool x370000_23, u370001] 29 (0, 0))) ∧ Aside0 (Below w.heap.size w wc))
       case first =>
        have H := HC24.out
        clear HC24
        by_cases c25 : a1 = true
        ·
         subst c25
         have H1 : ((spec_Wide_Negated.f kj9 t364 t365).bind fun bt371 => (laws_FnDecSum.j2 kj9 a0 true l2 l3 t358 t359 bt371.1 bt371.2)) = some r := by rw [if_pos rfl] at H; exact H
         clear H
         have H := H1
         clear H1
         replace H := Option.bind_eq_some_iff.mp H
         obtain ⟨⟨t371, t372⟩, A260, H⟩ := H
         replace H : (laws_FnDecSum.j2 kj9 a0 true l2 l3 t358 t359 t371 t372) = some r := H
         have A26 := a0_ A260
         clear A260
         have H' := a0_ H
         clear H
         have hnb27 := NB369_363.out
         have hnc27 := NB363_369.out
         have hcz28_0 : wc.cell? ⟨gb369, 0, none⟩ = some (.bool t364) := (blk_cell BK369.out 0).trans rfl
         have hcz28_1 : wc.cell? ⟨gb369, 1, none⟩ = some (.slice Ao19 t365.length co19) := (blk_cell BK369.out 1).trans rfl
         have hfz28_0 := blk_frozen BK369.out 0
         have hfz28_1 := blk_frozen BK369.out 1
         go_wp2_with (first | ((with_reducible refine gate_callee (f := 16) rfl ?_); refine goesL_ (some 46) rfl rfl Try.func16 (by kernel_rfl) rfl #[.agg #[.bool t364, .slice Ao19 t365.length co19]] rfl (by (try simp only [List.map_toArray, List.map_cons, List.map_nil]); first | done | rfl | (simp only [List.length_drop, List.length_take]; rfl)) ?_; (with_reducible refine (spec_Wide_Negated.calls kj9 t364 (fun k_ => (k_ ≠ gb363 ∧ k_ ≠ gb369)) _ _ t365 t371 t372 _ ?side1 A26.out).mono ?_); (case side1 => exact HO_370001.out); rintro e w29 ⟨v373, rfl, ho0, hb⟩; refine ⟨_, rfl, ?_⟩; have n0_ := a0_ (Kd.V_below (by (with_reducible repeat (first | apply v1_ | apply v2_ | apply v3_)); exact HO_364001.out) hb); have n1_ := a0_ (Kd.V_below (by (with_reducible repeat (first | apply v1_ | apply v2_ | apply v3_)); exact HO_370001.out) hb); have n2_ := a0_ (Kd.V_lower (v4_ (ok' := fun k_ => k_ ≠ gb363 ∧ k_ ≠ gb369) ho0 (fun k_ hk_ => ⟨Or.elim hk_ (fun hs_ => hs_.1) (fun hn_ => (Kd.freshB (g := gb363) (o := .cells #[.bool t358, .slice Ao14 t359.length co14] 29 (0, 0)) (by (with_reducible repeat (first | refine k1_ ?_ _ | refine k2_ ?_ | refine k3_ ?_ _)); exact BK363.out) k_ hn_)), Or.elim hk_ (fun hs_ => hs_.2) (fun hn_ => (Kd.freshB (g := gb369) (o := .cells #[.bool t364, .slice Ao19 t365.length co19] 29 (0, 0)) (by (with_reducible repeat (first | refine k1_ ?_ _ | refine k2_ ?_ | refine k3_ ?_ _)); exact BK369.out) k_ hn_))⟩)) (below_size (by repeat (first | (with_reducible first | exact HB.out | apply b1_ | apply b2_ | apply b3_ | refine b4_ ?_ GE363.out | refine b4_ ?_ GE369.out) | exact HB.out)))); have n3_ := a0_ (blk_below (g := gb363) (o := .cells #[.bool t358, .slice Ao14 t359.length co14] 29 (0, 0)) (by (with_reducible repeat (first | refine k1_ ?_ _ | refine k2_ ?_ | refine k3_ ?_ _)); exact BK363.out) hb); have n4_ := a0_ (blk_below (g := gb369) (o := .cells #[.bool t364, .slice Ao19 t365.length co19] 29 (0, 0)) (by (with_reducible repeat (first | refine k1_ ?_ _ | refine k2_ ?_ | refine k3_ ?_ _)); exact BK369.out) hb); have n5_ := a0_ (below_step (by repeat (first | (with_reducible first | exact HB.out | apply b1_ | apply b2_ | apply b3_ | refine b4_ ?_ GE363.out | refine b4_ ?_ GE369.out) | exact HB.out)) hb); clear HO_364001; clear HO_370001; clear BK363; clear BK369; clear HB; have HO_364001 := n0_; have HO_370001 := n1_; have HO374 := n2_; have BK363 := n3_; have BK369 := n4_; have HB := n5_; clear n0_ n1_ n2_ n3_ n4_ n5_; (try clear hb); (try clear hb2); (try clear hk); (try clear hi); (try clear ho0); have hcz30_0 : w29.cell? ⟨gb369, 0, none⟩ = some (.bool t364) := (blk_cell BK369.out 0).trans rfl; have hcz30_1 : w29.cell? ⟨gb369, 1, none⟩ = some (.slice Ao19 t365.length co19) := (blk_cell BK369.out 1).trans rfl; have hfz30_0 := blk_frozen BK369.out 0; have hfz30_1 := blk_frozen BK369.out 1; obtain ⟨Ao31, co31, eo31⟩ := Kd.V_slice HO374.out; subst eo31))
         go_meet
         case rel => exact ⟨_, (t371), (t372), (.slice Ao31 t372.length co31), H', ⟨by have := HJ4.out; have := HJ9.out; first | omega | exact Nat.le_refl _⟩, ⟨by (with_reducible repeat (first | apply v1_ | apply v2_ | apply v3_)); exact v4_ (v5_ (p := ⟨gb369, 1, none⟩) (v5_ (p := ⟨gb369, 0, none⟩) (v4_ HO_364001.out (fun k_ hk => (⟨hk, hk.2⟩ : _ ∧ k_ ≠ gb369))) (fun _ hk => hk.2) (.bool t371)) (fun _ hk => hk.2) (.slice Ao31 t372.length co31)) (fun _ hk => ⟨hk.1.1, hk.1.2⟩)⟩, ⟨by (with_reducible repeat (first | apply v1_ | apply v2_ | apply v3_)); exact v4_ (v5_ (p := ⟨gb369, 1, none⟩) (v5_ (p := ⟨gb369, 0, none⟩) (v4_ HO374.out (fun k_ hk => (⟨hk, hk.2⟩ : _ ∧ k_ ≠ gb369))) (fun _ hk => hk.2) (.bool t371)) (fun _ hk => hk.2) (.slice Ao31 t372.length co31)) (fun _ hk => ⟨hk.1.1, hk.1.2⟩)⟩, ⟨by (with_reducible repeat (first | refine k1_ ?_ _ | refine k2_ ?_ | refine k3_ ?_ _)); refine blk_far ?_ NB363_369.out _; (with_reducible repeat (first | refine k1_ ?_ _ | refine k2_ ?_ | refine k3_ ?_ _)); refine blk_far ?_ NB363_369.out _; (with_reducible repeat (first | refine k1_ ?_ _ | refine k2_ ?_ | refine k3_ ?_ _)); exact BK363.out⟩, ⟨by (with_reducible repeat (first | refine k1_ ?_ _ | refine k2_ ?_ | refine k3_ ?_ _)); refine blk_put (cs := #[.bool t371, .slice Ao19 t365.length co19]) ?_ 1 _ rfl; (with_reducible repeat (first | refine k1_ ?_ _ | refine k2_ ?_ | refine k3_ ?_ _)); refine blk_put (cs := #[.bool t364, .slice Ao19 t365.length co19]) ?_ 0 _ rfl; (with_reducible repeat (first | refine k1_ ?_ _ | refine k2_ ?_ | refine k3_ ?_ _)); exact BK369.out⟩, ⟨by repeat (first | (with_reducible first | exact HB.out | apply b1_ | apply b2_ | apply b3_ | refine b4_ ?_ GE363.out | refine b4_ ?_ GE369.out) | exact HB.out)⟩⟩
        ·
         replace c25 := Bool.eq_false_iff.mpr c25
         subst c25
         have H1 : (laws_FnDecSum.j2 kj9 a0 false l2 l3 t358 t359 t364 t365) = some r := by rw [if_neg (show ¬ (false = true) by decide)] at H; exact H
         clear H
         have H := H1
         clear H1
         have H' := a0_ H
         clear H
         go_wp2
         go_meet
         case rel => exact ⟨_, (t364), (t365), (.slice Ao19 t365.length co19), H', ⟨by have := HJ4.out; have := HJ9.out; first | omega | exact Nat.le_refl _⟩, ⟨by (with_reducible repeat (first | apply v1_ | apply v2_ | apply v3_)); exact HO_364001.out⟩, ⟨by (with_reducible repeat (first | apply v1_ | apply v2_ | apply v3_)); exact HO_370001.out⟩, ⟨by (with_reducible repeat (first | refine k1_ ?_ _ | refine k2_ ?_ | refine k3_ ?_ _)); exact BK363.out⟩, ⟨by (with_reducible repeat (first | refine k1_ ?_ _ | refine k2_ ?_ | refine k3_ ?_ _)); exact BK369.out⟩, ⟨by repeat (first | (with_reducible first | exact HB.out | apply b1_ | apply b2_ | apply b3_ | refine b4_ ?_ GE363.out | refine b4_ ?_ GE369.out) | exact HB.out)⟩⟩
       case rest =>
        clear HC24
        try clear c1
        try clear c2
        try clear p2
        try clear c3
        try clear c5
        try clear c6
        try clear c6b0
        try clear c6b1
        try clear c7
        try clear c9
        try clear c15
        try clear c16
        try clear c17
        try clear c20
        try clear c21
        try clear c25
        try clear c27
        try clear hcz13_0
        try clear hcz13_1
        try clear hcz18_0
        try clear hcz18_1
        try clear hcz28_0
        try clear hcz28_1
        try clear hcz30_0
        try clear hcz30_1
        try clear hfz13_0
        try clear hfz13_1
        try clear hfz18_0
        try clear hfz18_1
        try clear hfz28_0
        try clear hfz28_1
        try clear hfz30_0
        try clear hfz30_1
        try clear p2
        obtain ⟨kq, x370000_23, x370001_23, u370001, HA, HJ23, HO_364001, HO_370001, BK363, BK369, HB⟩ := hcut
        cases kq with
        | zero => exact absurd HA.out (by simp [laws_FnDecSum.j2])
        | succ kj23 =>
         have H := HA.out
         clear HA
         simp only [laws_FnDecSum.j2] at H
         replace H := Option.bind_eq_some_iff.mp H
         obtain ⟨⟨t375, t376⟩, A320, H⟩ := H
         replace H : ((laws_wrapped.f kj23 a0 t375 t376).bind fun bt379 => ((impl_DecSum.f a0 a1 l2 l3).bind fun bt383 => (if bt383.2 = true then ((laws_sameWords.f kj23 bt383.1 bt379.1).bind fun t387 => (if t387 = true then ((laws_sums.f kj23).bind fun t388 => (some t388)) else (some false))) else (some false)))) = some r := H
         have A32 := a0_ A320
         clear A320
         replace H := Option.bind_eq_some_iff.mp H
         obtain ⟨⟨t379, t382⟩, A330, H⟩ := H
         replace H : ((impl_DecSum.f a0 a1 l2 l3).bind fun bt383 => (if bt383.2 = true then ((laws_sameWords.f kj23 bt383.1 t379).bind fun t387 => (if t387 = true then ((laws_sums.f kj23).bind fun t388 => (some t388)) else (some false))) else (some false))) = some r := H
         have A33 := a0_ A330
         clear A330
         replace H := Option.bind_eq_some_iff.mp H
         obtain ⟨⟨t383, t384⟩, A340, H⟩ := H
         replace H : (if t384 = true then ((laws_sameWords.f kj23 t383 t379).bind fun t387 => (if t387 = true then ((laws_sums.f kj23).bind fun t388 => (some t388)) else (some false))) else (some false)) = some r := H
         have A34 := a0_ A340
         clear A340
         by_cases c35 : t384 = true
         ·
          subst c35
          have H1 : ((laws_sameWords.f kj23 t383 t379).bind fun t387 => (if t387 = true then ((laws_sums.f kj23).bind fun t388 => (some t388)) else (some false))) = some r := by rw [if_pos rfl] at H; exact H
          clear H
          have H := H1
          clear H1
          replace H := Option.bind_eq_some_iff.mp H
          obtain ⟨t387, A360, H⟩ := H
          replace H : (if t387 = true then ((laws_sums.f kj23).bind fun t388 => (some t388)) else (some false)) = some r := H
          have A36 := a0_ A360
          clear A360
          by_cases c37 : t387 = true
          ·
           subst c37
           have H1 : ((laws_sums.f kj23).bind fun t388 => (some t388)) = some r := by rw [if_pos rfl] at H; exact H
           clear H
           have H := H1
           clear H1
           replace H := Option.bind_eq_some_iff.mp H
           obtain ⟨t388, A380, H⟩ := H
           replace H : (some t388) = some r := H
           have A38 := a0_ A380
           clear A380
           obtain rfl := o1_ H
           have hnb39 := NB363_369.out
           have hnc39 := NB369_363.out
           have hcz40_0 : wc.cell? ⟨gb363, 0, none⟩ = some (.bool t358) := (blk_cell BK363.out 0).trans rfl
           have hcz40_1 : wc.cell? ⟨gb363, 1, none⟩ = some (.slice Ao14 t359.length co14) := (blk_cell BK363.out 1).trans rfl
           have hfz40_0 := blk_frozen BK363.out 0
           have hfz40_1 := blk_frozen BK363.out 1
           have hcz41_0 : wc.cell? ⟨gb369, 0, none⟩ = some (.bool x370000_23) := (blk_cell BK369.out 0).trans rfl
           have hcz41_1 : wc.cell? ⟨gb369, 1, none⟩ = some (u370001) := (blk_cell BK369.out 1).trans rfl
           have hfz41_0 := blk_frozen BK369.out 0
           have hfz41_1 := blk_frozen BK369.out 1
           obtain ⟨Ao42, co42, eo42⟩ := Kd.V_slice HO_370001.out
           subst eo42
           go_wp2_with (first | ((with_reducible refine gate_callee (f := 17) rfl ?_); refine goesL_ (some 51) rfl rfl Try.func17 (by kernel_rfl) rfl #[.agg #[.bool t358, .slice Ao14 t359.length co14], .agg #[.bool x370000_23, .slice Ao42 x370001_23.length co42]] rfl (by (try simp only [List.map_toArray, List.map_cons, List.map_nil]); first | done | rfl | (simp only [List.length_drop, List.length_take]; rfl)) ?_; (with_reducible refine (spec_WideAdd.calls kj23 t358 _ _ t359 x370000_23 _ _ x370001_23 t375 t376 _ ?side1 ?side2 ?side3 ?side4 A32.out).mono ?_); (case side1 => repeat (first | exact (Kd.V_reads' HO_364001.out).2.2 | (with_reducible refine Kd.C_alloc ?_ _) | (with_reducible refine Kd.C_drewN ?_ _) | (with_reducible refine Kd.C_drew ?_))); (case side2 => exact (Kd.V_reads' HO_364001.out).2.1); (case side3 => repeat (first | exact (Kd.V_reads' HO_370001.out).2.2 | (with_reducible refine Kd.C_alloc ?_ _) | (with_reducible refine Kd.C_drewN ?_ _) | (with_reducible refine Kd.C_drew ?_))); (case side4 => exact (Kd.V_reads' HO_370001.out).2.1); rintro e w43 ⟨v377, rfl, ho0, hb⟩; refine ⟨_, rfl, ?_⟩; have n0_ := a0_ (Kd.V_below (by (with_reducible repeat (first | apply v1_ | apply v2_ | apply v3_)); exact HO_364001.out) hb); have n1_ := a0_ (Kd.V_below (by (with_reducible repeat (first | apply v1_ | apply v2_ | apply v3_)); exact HO_370001.out) hb); have n2_ := a0_ (Kd.V_lower (v4_ (ok' := fun k_ => k_ ≠ gb363 ∧ k_ ≠ gb369) ho0 (fun k_ hk_ => ⟨(Kd.freshB (g := gb363) (o := .cells #[.bool t358, .slice Ao14 t359.length co14] 29 (0, 0)) (by (with_reducible repeat (first | refine k1_ ?_ _ | refine k2_ ?_ | refine k3_ ?_ _)); exact BK363.out) k_ hk_), (Kd.freshB (g := gb369) (o := .cells #[.bool x370000_23, .slice Ao42 x370001_23.length co42] 29 (0, 0)) (by (with_reducible repeat (first | refine k1_ ?_ _ | refine k2_ ?_ | refine k3_ ?_ _)); exact BK369.out) k_ hk_)⟩)) (below_size (by repeat (first | (with_reducible first | exact HB.out | apply b1_ | apply b2_ | apply b3_ | refine b4_ ?_ GE363.out | refine b4_ ?_ GE369.out) | exact HB.out)))); have n3_ := a0_ (blk_below (g := gb363) (o := .cells #[.bool t358, .slice Ao14 t359.length co14] 29 (0, 0)) (by (with_reducible repeat (first | refine k1_ ?_ _ | refine k2_ ?_ | refine k3_ ?_ _)); exact BK363.out) hb); have n4_ := a0_ (blk_below (g := gb369) (o := .cells #[.bool x370000_23, .slice Ao42 x370001_23.length co42] 29 (0, 0)) (by (with_reducible repeat (first | refine k1_ ?_ _ | refine k2_ ?_ | refine k3_ ?_ _)); exact BK369.out) hb); have n5_ := a0_ (below_step (by repeat (first | (with_reducible first | exact HB.out | apply b1_ | apply b2_ | apply b3_ | refine b4_ ?_ GE363.out | refine b4_ ?_ GE369.out) | exact HB.out)) hb); clear HO_364001; clear HO_370001; clear BK363; clear BK369; clear HB; have HO_364001 := n0_; have HO_370001 := n1_; have HO378 := n2_; have BK363 := n3_; have BK369 := n4_; have HB := n5_; clear n0_ n1_ n2_ n3_ n4_ n5_; (try clear hb); (try clear hb2); (try clear hk); (try clear hi); (try clear ho0); obtain ⟨Ao44, co44, eo44⟩ := Kd.V_slice HO378.out; subst eo44) | ((with_reducible refine gate_callee (f := 12) rfl ?_); refine goesL_ (some 52) rfl rfl Try.func12 (by kernel_rfl) rfl #[.int .i64 a0, .agg #[.bool t375, .slice Ao44 t376.length co44]] rfl (by (try simp only [List.map_toArray, List.map_cons, List.map_nil]); first | done | rfl | (simp only [List.length_drop, List.length_take]; rfl)) ?_; (with_reducible refine (laws_wrapped.calls kj23 a0 t375 _ _ t376 t379 t382 _ ?side1 ?side2 A33.out).mono ?_); (case side1 => repeat (first | exact (Kd.V_reads' HO378.out).2.2 | (with_reducible refine Kd.C_alloc ?_ _) | (with_reducible refine Kd.C_drewN ?_ _) | (with_reducible refine Kd.C_drew ?_))); (case side2 => exact (Kd.V_reads' HO378.out).2.1); rintro e w45 ⟨v380, rfl, ho0, hb⟩; refine ⟨_, rfl, ?_⟩; have n0_ := a0_ (Kd.V_elder' (by (with_reducible repeat (first | apply v1_ | apply v2_ | apply v3_)); exact HO_364001.out) (Kd.R_base ho0) hb); have n1_ := a0_ (Kd.V_elder' (by (with_reducible repeat (first | apply v1_ | apply v2_ | apply v3_)); exact HO_370001.out) (Kd.R_base ho0) hb); have n2_ := a0_ (Kd.V_elder' (by (with_reducible repeat (first | apply v1_ | apply v2_ | apply v3_)); exact HO378.out) (Kd.R_base ho0) hb); have n3_ := a0_ (Kd.R_lower ho0 (below_size (by repeat (first | (with_reducible first | exact HB.out | apply b1_ | apply b2_ | apply b3_ | refine b4_ ?_ GE363.out | refine b4_ ?_ GE369.out) | exact HB.out)))); have n4_ := a0_ (blk_below (g := gb363) (o := .cells #[.bool t358, .slice Ao14 t359.length co14] 29 (0, 0)) (by (with_reducible repeat (first | refine k1_ ?_ _ | refine k2_ ?_ | refine k3_ ?_ _)); exact BK363.out) hb); have n5_ := a0_ (blk_below (g := gb369) (o := .cells #[.bool x370000_23, .slice Ao42 x370001_23.length co42] 29 (0, 0)) (by (with_reducible repeat (first | refine k1_ ?_ _ | refine k2_ ?_ | refine k3_ ?_ _)); exact BK369.out) hb); have n6_ := a0_ (below_step (by repeat (first | (with_reducible first | exact HB.out | apply b1_ | apply b2_ | apply b3_ | refine b4_ ?_ GE363.out | refine b4_ ?_ GE369.out) | exact HB.out)) hb); clear HO_364001; clear HO_370001; clear HO378; clear BK363; clear BK369; clear HB; have HO_364001 := n0_; have HO_370001 := n1_; have HO378 := n2_; have HO381 := n3_; have BK363 := n4_; have BK369 := n5_; have HB := n6_; clear n0_ n1_ n2_ n3_ n4_ n5_ n6_; (try clear hb); (try clear hb2); (try clear hk); (try clear hi); (try clear ho0)) | ((with_reducible refine gate_callee (f := 18) rfl ?_); refine goesL_ (some 60) rfl rfl Try.func18 (by kernel_rfl) rfl #[.int .i64 a0, .bool a1, .slice A2 l2.length c2, .slice A3 l3.length c3] rfl (by (try simp only [List.map_toArray, List.map_cons, List.map_nil]); first | done | rfl | (simp only [List.length_drop, List.length_take]; rfl)) ?_; (with_reducible refine (impl_DecSum.calls a0 a1 _ _ l2 _ _ l3 t383 true _ ?side1 ?side2 ?side3 ?side4 A34.out).mono ?_); (case side1 => repeat (first | exact (Kd.C_below HR2.out HB.out) | (with_reducible refine Kd.C_alloc ?_ _) | (with_reducible refine Kd.C_drewN ?_ _) | (with_reducible refine Kd.C_drew ?_))); (case side2 => exact HC2.out); (case side3 => repeat (first | exact (Kd.C_below HR3.out HB.out) | (with_reducible refine Kd.C_alloc ?_ _) | (with_reducible refine Kd.C_drewN ?_ _) | (with_reducible refine Kd.C_drew ?_))); (case side4 => exact HC3.out); rintro e w46 ⟨v385, rfl, ho0, hb⟩; refine ⟨_, rfl, ?_⟩; have n0_ := a0_ (Kd.V_below (by (with_reducible repeat (first | apply v1_ | apply v2_ | apply v3_)); exact HO_364001.out) hb); have n1_ := a0_ (Kd.V_below (by (with_reducible repeat (first | apply v1_ | apply v2_ | apply v3_)); exact HO_370001.out) hb); have n2_ := a0_ (Kd.V_below (by (with_reducible repeat (first | apply v1_ | apply v2_ | apply v3_)); exact HO378.out) hb); have n3_ := a0_ (Kd.R_below (by (with_reducible repeat (first | apply r1_ | apply r2_ | apply r3_)); exact HO381.out) hb); have n4_ := a0_ ho0; have n5_ := a0_ (blk_below (g := gb363) (o := .cells #[.bool t358, .slice Ao14 t359.length co14] 29 (0, 0)) (by (with_reducible repeat (first | refine k1_ ?_ _ | refine k2_ ?_ | refine k3_ ?_ _)); exact BK363.out) hb); have n6_ := a0_ (blk_below (g := gb369) (o := .cells #[.bool x370000_23, .slice Ao42 x370001_23.length co42] 29 (0, 0)) (by (with_reducible repeat (first | refine k1_ ?_ _ | refine k2_ ?_ | refine k3_ ?_ _)); exact BK369.out) hb); have n7_ := a0_ (below_step (by repeat (first | (with_reducible first | exact HB.out | apply b1_ | apply b2_ | apply b3_ | refine b4_ ?_ GE363.out | refine b4_ ?_ GE369.out) | exact HB.out)) hb); clear HO_364001; clear HO_370001; clear HO378; clear HO381; clear BK363; clear BK369; clear HB; have HO_364001 := n0_; have HO_370001 := n1_; have HO378 := n2_; have HO381 := n3_; have HO386 := n4_; have BK363 := n5_; have BK369 := n6_; have HB := n7_; clear n0_ n1_ n2_ n3_ n4_ n5_ n6_ n7_; (try clear hb); (try clear hb2); (try clear hk); (try clear hi); (try clear ho0); obtain ⟨Ao47, co47, eo47⟩ := Kd.V_slice HO386.out; subst eo47; obtain ⟨Ao48, co48, eo48⟩ := Kd.R_slice HO381.out; subst eo48) | (go_at_call 8; (with_reducible refine (laws_sameWords.calls kj23 _ _ t383 _ _ t379 true _ ?side1 ?side2 ?side3 ?side4 A36.out).mono ?_); (case side1 => repeat (first | exact (Kd.V_reads' HO386.out).2.2 | (with_reducible refine Kd.C_alloc ?_ _) | (with_reducible refine Kd.C_drewN ?_ _) | (with_reducible refine Kd.C_drew ?_))); (case side2 => exact (Kd.V_reads' HO386.out).2.1); (case side3 => repeat (first | exact (Kd.R_reads' HO381.out).2.2 | (with_reducible refine Kd.C_alloc ?_ _) | (with_reducible refine Kd.C_drewN ?_ _) | (with_reducible refine Kd.C_drew ?_))); (case side4 => exact (Kd.R_reads' HO381.out).2.1); rintro e w' ⟨rfl, ⟨nd, rfl⟩⟩) | (go_at_call 15; (with_reducible refine (laws_sums.calls kj23  t388 _ A38.out).mono ?_); rintro e w49 ⟨rfl, hb⟩; have n0_ := a0_ (Kd.V_below (by (with_reducible repeat (first | apply v1_ | apply v2_ | apply v3_)); exact HO_364001.out) hb); have n1_ := a0_ (Kd.V_below (by (with_reducible repeat (first | apply v1_ | apply v2_ | apply v3_)); exact HO_370001.out) hb); have n2_ := a0_ (Kd.V_below (by (with_reducible repeat (first | apply v1_ | apply v2_ | apply v3_)); exact HO378.out) hb); have n3_ := a0_ (Kd.R_below (by (with_reducible repeat (first | apply r1_ | apply r2_ | apply r3_)); exact HO381.out) hb); have n4_ := a0_ (Kd.V_below (by (with_reducible repeat (first | apply v1_ | apply v2_ | apply v3_)); exact HO386.out) hb); have n5_ := a0_ (blk_below (g := gb363) (o := .cells #[.bool t358, .slice Ao14 t359.length co14] 29 (0, 0)) (by (with_reducible repeat (first | refine k1_ ?_ _ | refine k2_ ?_ | refine k3_ ?_ _)); exact BK363.out) hb); have n6_ := a0_ (blk_below (g := gb369) (o := .cells #[.bool x370000_23, .slice Ao42 x370001_23.length co42] 29 (0, 0)) (by (with_reducible repeat (first | refine k1_ ?_ _ | refine k2_ ?_ | refine k3_ ?_ _)); exact BK369.out) hb); have n7_ := a0_ (below_step (by repeat (first | (with_reducible first | exact HB.out | apply b1_ | apply b2_ | apply b3_ | refine b4_ ?_ GE363.out | refine b4_ ?_ GE369.out) | exact HB.out)) hb); clear HO_364001; clear HO_370001; clear HO378; clear HO381; clear HO386; clear BK363; clear BK369; clear HB; have HO_364001 := n0_; have HO_370001 := n1_; have HO378 := n2_; have HO381 := n3_; have HO386 := n4_; have BK363 := n5_; have BK369 := n6_; have HB := n7_; clear n0_ n1_ n2_ n3_ n4_ n5_ n6_ n7_; (try clear hb); (try clear hb2); (try clear hk); (try clear hi)))
           go_ret
           exact ⟨by first | rfl | (simp [e1_, e2_] <;> rfl) | (simp [*, e1_, e2_] <;> rfl), by repeat (first | (with_reducible first | exact HB.out | apply b1_ | apply b2_ | apply b3_ | refine b4_ ?_ GE363.out | refine b4_ ?_ GE369.out) | exact HB.out)⟩
          ·
           replace c37 := Bool.eq_false_iff.mpr c37
           subst c37
           have H1 : (some false) = some r := by rw [if_neg (show ¬ (false = true) by decide)] at H; exact H
           clear H
           have H := H1
           clear H1
           obtain rfl := o1_ H
           have hnb50 := NB363_369.out
           have hnc50 := NB369_363.out
           have hcz51_0 : wc.cell? ⟨gb363, 0, none⟩ = some (.bool t358) := (blk_cell BK363.out 0).trans rfl
           have hcz51_1 : wc.cell? ⟨gb363, 1, none⟩ = some (.slice Ao14 t359.length co14) := (blk_cell BK363.out 1).trans rfl
           have hfz51_0 := blk_frozen BK363.out 0
           have hfz51_1 := blk_frozen BK363.out 1
           have hcz52_0 : wc.cell? ⟨gb369, 0, none⟩ = some (.bool x370000_23) := (blk_cell BK369.out 0).trans rfl
           have hcz52_1 : wc.cell? ⟨gb369, 1, none⟩ = some (u370001) := (blk_cell BK369.out 1).trans rfl
           have hfz52_0 := blk_frozen BK369.out 0
           have hfz52_1 := blk_frozen BK369.out 1
           obtain ⟨Ao53, co53, eo53⟩ := Kd.V_slice HO_370001.out
           subst eo53
           go_wp2_with (first | ((with_reducible refine gate_callee (f := 17) rfl ?_); refine goesL_ (some 51) rfl rfl Try.func17 (by kernel_rfl) rfl #[.agg #[.bool t358, .slice Ao14 t359.length co14], .agg #[.bool x370000_23, .slice Ao53 x370001_23.length co53]] rfl (by (try simp only [List.map_toArray, List.map_cons, List.map_nil]); first | done | rfl | (simp only [List.length_drop, List.length_take]; rfl)) ?_; (with_reducible refine (spec_WideAdd.calls kj23 t358 _ _ t359 x370000_23 _ _ x370001_23 t375 t376 _ ?side1 ?side2 ?side3 ?side4 A32.out).mono ?_); (case side1 => repeat (first | exact (Kd.V_reads' HO_364001.out).2.2 | (with_reducible refine Kd.C_alloc ?_ _) | (with_reducible refine Kd.C_drewN ?_ _) | (with_reducible refine Kd.C_drew ?_))); (case side2 => exact (Kd.V_reads' HO_364001.out).2.1); (case side3 => repeat (first | exact (Kd.V_reads' HO_370001.out).2.2 | (with_reducible refine Kd.C_alloc ?_ _) | (with_reducible refine Kd.C_drewN ?_ _) | (with_reducible refine Kd.C_drew ?_))); (case side4 => exact (Kd.V_reads' HO_370001.out).2.1); rintro e w54 ⟨v377, rfl, ho0, hb⟩; refine ⟨_, rfl, ?_⟩; have n0_ := a0_ (Kd.V_below (by (with_reducible repeat (first | apply v1_ | apply v2_ | apply v3_)); exact HO_364001.out) hb); have n1_ := a0_ (Kd.V_below (by (with_reducible repeat (first | apply v1_ | apply v2_ | apply v3_)); exact HO_370001.out) hb); have n2_ := a0_ (Kd.V_lower (v4_ (ok' := fun k_ => k_ ≠ gb363 ∧ k_ ≠ gb369) ho0 (fun k_ hk_ => ⟨(Kd.freshB (g := gb363) (o := .cells #[.bool t358, .slice Ao14 t359.length co14] 29 (0, 0)) (by (with_reducible repeat (first | refine k1_ ?_ _ | refine k2_ ?_ | refine k3_ ?_ _)); exact BK363.out) k_ hk_), (Kd.freshB (g := gb369) (o := .cells #[.bool x370000_23, .slice Ao53 x370001_23.length co53] 29 (0, 0)) (by (with_reducible repeat (first | refine k1_ ?_ _ | refine k2_ ?_ | refine k3_ ?_ _)); exact BK369.out) k_ hk_)⟩)) (below_size (by repeat (first | (with_reducible first | exact HB.out | apply b1_ | apply b2_ | apply b3_ | refine b4_ ?_ GE363.out | refine b4_ ?_ GE369.out) | exact HB.out)))); have n3_ := a0_ (blk_below (g := gb363) (o := .cells #[.bool t358, .slice Ao14 t359.length co14] 29 (0, 0)) (by (with_reducible repeat (first | refine k1_ ?_ _ | refine k2_ ?_ | refine k3_ ?_ _)); exact BK363.out) hb); have n4_ := a0_ (blk_below (g := gb369) (o := .cells #[.bool x370000_23, .slice Ao53 x370001_23.length co53] 29 (0, 0)) (by (with_reducible repeat (first | refine k1_ ?_ _ | refine k2_ ?_ | refine k3_ ?_ _)); exact BK369.out) hb); have n5_ := a0_ (below_step (by repeat (first | (with_reducible first | exact HB.out | apply b1_ | apply b2_ | apply b3_ | refine b4_ ?_ GE363.out | refine b4_ ?_ GE369.out) | exact HB.out)) hb); clear HO_364001; clear HO_370001; clear BK363; clear BK369; clear HB; have HO_364001 := n0_; have HO_370001 := n1_; have HO378 := n2_; have BK363 := n3_; have BK369 := n4_; have HB := n5_; clear n0_ n1_ n2_ n3_ n4_ n5_; (try clear hb); (try clear hb2); (try clear hk); (try clear hi); (try clear ho0); obtain ⟨Ao55, co55, eo55⟩ := Kd.V_slice HO378.out; subst eo55) | ((with_reducible refine gate_callee (f := 12) rfl ?_); refine goesL_ (some 52) rfl rfl Try.func12 (by kernel_rfl) rfl #[.int .i64 a0, .agg #[.bool t375, .slice Ao55 t376.length co55]] rfl (by (try simp only [List.map_toArray, List.map_cons, List.map_nil]); first | done | rfl | (simp only [List.length_drop, List.length_take]; rfl)) ?_; (with_reducible refine (laws_wrapped.calls kj23 a0 t375 _ _ t376 t379 t382 _ ?side1 ?side2 A33.out).mono ?_); (case side1 => repeat (first | exact (Kd.V_reads' HO378.out).2.2 | (with_reducible refine Kd.C_alloc ?_ _) | (with_reducible refine Kd.C_drewN ?_ _) | (with_reducible refine Kd.C_drew ?_))); (case side2 => exact (Kd.V_reads' HO378.out).2.1); rintro e w56 ⟨v380, rfl, ho0, hb⟩; refine ⟨_, rfl, ?_⟩; have n0_ := a0_ (Kd.V_elder' (by (with_reducible repeat (first | apply v1_ | apply v2_ | apply v3_)); exact HO_364001.out) (Kd.R_base ho0) hb); have n1_ := a0_ (Kd.V_elder' (by (with_reducible repeat (first | apply v1_ | apply v2_ | apply v3_)); exact HO_370001.out) (Kd.R_base ho0) hb); have n2_ := a0_ (Kd.V_elder' (by (with_reducible repeat (first | apply v1_ | apply v2_ | apply v3_)); exact HO378.out) (Kd.R_base ho0) hb); have n3_ := a0_ (Kd.R_lower ho0 (below_size (by repeat (first | (with_reducible first | exact HB.out | apply b1_ | apply b2_ | apply b3_ | refine b4_ ?_ GE363.out | refine b4_ ?_ GE369.out) | exact HB.out)))); have n4_ := a0_ (blk_below (g := gb363) (o := .cells #[.bool t358, .slice Ao14 t359.length co14] 29 (0, 0)) (by (with_reducible repeat (first | refine k1_ ?_ _ | refine k2_ ?_ | refine k3_ ?_ _)); exact BK363.out) hb); have n5_ := a0_ (blk_below (g := gb369) (o := .cells #[.bool x370000_23, .slice Ao53 x370001_23.length co53] 29 (0, 0)) (by (with_reducible repeat (first | refine k1_ ?_ _ | refine k2_ ?_ | refine k3_ ?_ _)); exact BK369.out) hb); have n6_ := a0_ (below_step (by repeat (first | (with_reducible first | exact HB.out | apply b1_ | apply b2_ | apply b3_ | refine b4_ ?_ GE363.out | refine b4_ ?_ GE369.out) | exact HB.out)) hb); clear HO_364001; clear HO_370001; clear HO378; clear BK363; clear BK369; clear HB; have HO_364001 := n0_; have HO_370001 := n1_; have HO378 := n2_; have HO381 := n3_; have BK363 := n4_; have BK369 := n5_; have HB := n6_; clear n0_ n1_ n2_ n3_ n4_ n5_ n6_; (try clear hb); (try clear hb2); (try clear hk); (try clear hi); (try clear ho0)) | ((with_reducible refine gate_callee (f := 18) rfl ?_); refine goesL_ (some 60) rfl rfl Try.func18 (by kernel_rfl) rfl #[.int .i64 a0, .bool a1, .slice A2 l2.length c2, .slice A3 l3.length c3] rfl (by (try simp only [List.map_toArray, List.map_cons, List.map_nil]); first | done | rfl | (simp only [List.length_drop, List.length_take]; rfl)) ?_; (with_reducible refine (impl_DecSum.calls a0 a1 _ _ l2 _ _ l3 t383 true _ ?side1 ?side2 ?side3 ?side4 A34.out).mono ?_); (case side1 => repeat (first | exact (Kd.C_below HR2.out HB.out) | (with_reducible refine Kd.C_alloc ?_ _) | (with_reducible refine Kd.C_drewN ?_ _) | (with_reducible refine Kd.C_drew ?_))); (case side2 => exact HC2.out); (case side3 => repeat (first | exact (Kd.C_below HR3.out HB.out) | (with_reducible refine Kd.C_alloc ?_ _) | (with_reducible refine Kd.C_drewN ?_ _) | (with_reducible refine Kd.C_drew ?_))); (case side4 => exact HC3.out); rintro e w57 ⟨v385, rfl, ho0, hb⟩; refine ⟨_, rfl, ?_⟩; have n0_ := a0_ (Kd.V_below (by (with_reducible repeat (first | apply v1_ | apply v2_ | apply v3_)); exact HO_364001.out) hb); have n1_ := a0_ (Kd.V_below (by (with_reducible repeat (first | apply v1_ | apply v2_ | apply v3_)); exact HO_370001.out) hb); have n2_ := a0_ (Kd.V_below (by (with_reducible repeat (first | apply v1_ | apply v2_ | apply v3_)); exact HO378.out) hb); have n3_ := a0_ (Kd.R_below (by (with_reducible repeat (first | apply r1_ | apply r2_ | apply r3_)); exact HO381.out) hb); have n4_ := a0_ ho0; have n5_ := a0_ (blk_below (g := gb363) (o := .cells #[.bool t358, .slice Ao14 t359.length co14] 29 (0, 0)) (by (with_reducible repeat (first | refine k1_ ?_ _ | refine k2_ ?_ | refine k3_ ?_ _)); exact BK363.out) hb); have n6_ := a0_ (blk_below (g := gb369) (o := .cells #[.bool x370000_23, .slice Ao53 x370001_23.length co53] 29 (0, 0)) (by (with_reducible repeat (first | refine k1_ ?_ _ | refine k2_ ?_ | refine k3_ ?_ _)); exact BK369.out) hb); have n7_ := a0_ (below_step (by repeat (first | (with_reducible first | exact HB.out | apply b1_ | apply b2_ | apply b3_ | refine b4_ ?_ GE363.out | refine b4_ ?_ GE369.out) | exact HB.out)) hb); clear HO_364001; clear HO_370001; clear HO378; clear HO381; clear BK363; clear BK369; clear HB; have HO_364001 := n0_; have HO_370001 := n1_; have HO378 := n2_; have HO381 := n3_; have HO386 := n4_; have BK363 := n5_; have BK369 := n6_; have HB := n7_; clear n0_ n1_ n2_ n3_ n4_ n5_ n6_ n7_; (try clear hb); (try clear hb2); (try clear hk); (try clear hi); (try clear ho0); obtain ⟨Ao58, co58, eo58⟩ := Kd.V_slice HO386.out; subst eo58; obtain ⟨Ao59, co59, eo59⟩ := Kd.R_slice HO381.out; subst eo59) | (go_at_call 8; (with_reducible refine (laws_sameWords.calls kj23 _ _ t383 _ _ t379 false _ ?side1 ?side2 ?side3 ?side4 A36.out).mono ?_); (case side1 => repeat (first | exact (Kd.V_reads' HO386.out).2.2 | (with_reducible refine Kd.C_alloc ?_ _) | (with_reducible refine Kd.C_drewN ?_ _) | (with_reducible refine Kd.C_drew ?_))); (case side2 => exact (Kd.V_reads' HO386.out).2.1); (case side3 => repeat (first | exact (Kd.R_reads' HO381.out).2.2 | (with_reducible refine Kd.C_alloc ?_ _) | (with_reducible refine Kd.C_drewN ?_ _) | (with_reducible refine Kd.C_drew ?_))); (case side4 => exact (Kd.R_reads' HO381.out).2.1); rintro e w' ⟨rfl, ⟨nd, rfl⟩⟩))
           go_ret
           exact ⟨by first | rfl | (simp [e1_, e2_] <;> rfl) | (simp [*, e1_, e2_] <;> rfl), by repeat (first | (with_reducible first | exact HB.out | apply b1_ | apply b2_ | apply b3_ | refine b4_ ?_ GE363.out | refine b4_ ?_ GE369.out) | exact HB.out)⟩
         ·
          replace c35 := Bool.eq_false_iff.mpr c35
          subst c35
          have H1 : (some false) = some r := by rw [if_neg (show ¬ (false = true) by decide)] at H; exact H
          clear H
          have H := H1
          clear H1
          obtain rfl := o1_ H
          have hnb60 := NB363_369.out
          have hnc60 := NB369_363.out
          have hcz61_0 : wc.cell? ⟨gb363, 0, none⟩ = some (.bool t358) := (blk_cell BK363.out 0).trans rfl
          have hcz61_1 : wc.cell? ⟨gb363, 1, none⟩ = some (.slice Ao14 t359.length co14) := (blk_cell BK363.out 1).trans rfl
          have hfz61_0 := blk_frozen BK363.out 0
          have hfz61_1 := blk_frozen BK363.out 1
          have hcz62_0 : wc.cell? ⟨gb369, 0, none⟩ = some (.bool x370000_23) := (blk_cell BK369.out 0).trans rfl
          have hcz62_1 : wc.cell? ⟨gb369, 1, none⟩ = some (u370001) := (blk_cell BK369.out 1).trans rfl
          have hfz62_0 := blk_frozen BK369.out 0
          have hfz62_1 := blk_frozen BK369.out 1
          obtain ⟨Ao63, co63, eo63⟩ := Kd.V_slice HO_370001.out
          subst eo63
          go_wp2_with (first | ((with_reducible refine gate_callee (f := 17) rfl ?_); refine goesL_ (some 51) rfl rfl Try.func17 (by kernel_rfl) rfl #[.agg #[.bool t358, .slice Ao14 t359.length co14], .agg #[.bool x370000_23, .slice Ao63 x370001_23.length co63]] rfl (by (try simp only [List.map_toArray, List.map_cons, List.map_nil]); first | done | rfl | (simp only [List.length_drop, List.length_take]; rfl)) ?_; (with_reducible refine (spec_WideAdd.calls kj23 t358 _ _ t359 x370000_23 _ _ x370001_23 t375 t376 _ ?side1 ?side2 ?side3 ?side4 A32.out).mono ?_); (case side1 => repeat (first | exact (Kd.V_reads' HO_364001.out).2.2 | (with_reducible refine Kd.C_alloc ?_ _) | (with_reducible refine Kd.C_drewN ?_ _) | (with_reducible refine Kd.C_drew ?_))); (case side2 => exact (Kd.V_reads' HO_364001.out).2.1); (case side3 => repeat (first | exact (Kd.V_reads' HO_370001.out).2.2 | (with_reducible refine Kd.C_alloc ?_ _) | (with_reducible refine Kd.C_drewN ?_ _) | (with_reducible refine Kd.C_drew ?_))); (case side4 => exact (Kd.V_reads' HO_370001.out).2.1); rintro e w64 ⟨v377, rfl, ho0, hb⟩; refine ⟨_, rfl, ?_⟩; have n0_ := a0_ (Kd.V_below (by (with_reducible repeat (first | apply v1_ | apply v2_ | apply v3_)); exact HO_364001.out) hb); have n1_ := a0_ (Kd.V_below (by (with_reducible repeat (first | apply v1_ | apply v2_ | apply v3_)); exact HO_370001.out) hb); have n2_ := a0_ (Kd.V_lower (v4_ (ok' := fun k_ => k_ ≠ gb363 ∧ k_ ≠ gb369) ho0 (fun k_ hk_ => ⟨(Kd.freshB (g := gb363) (o := .cells #[.bool t358, .slice Ao14 t359.length co14] 29 (0, 0)) (by (with_reducible repeat (first | refine k1_ ?_ _ | refine k2_ ?_ | refine k3_ ?_ _)); exact BK363.out) k_ hk_), (Kd.freshB (g := gb369) (o := .cells #[.bool x370000_23, .slice Ao63 x370001_23.length co63] 29 (0, 0)) (by (with_reducible repeat (first | refine k1_ ?_ _ | refine k2_ ?_ | refine k3_ ?_ _)); exact BK369.out) k_ hk_)⟩)) (below_size (by repeat (first | (with_reducible first | exact HB.out | apply b1_ | apply b2_ | apply b3_ | refine b4_ ?_ GE363.out | refine b4_ ?_ GE369.out) | exact HB.out)))); have n3_ := a0_ (blk_below (g := gb363) (o := .cells #[.bool t358, .slice Ao14 t359.length co14] 29 (0, 0)) (by (with_reducible repeat (first | refine k1_ ?_ _ | refine k2_ ?_ | refine k3_ ?_ _)); exact BK363.out) hb); have n4_ := a0_ (blk_below (g := gb369) (o := .cells #[.bool x370000_23, .slice Ao63 x370001_23.length co63] 29 (0, 0)) (by (with_reducible repeat (first | refine k1_ ?_ _ | refine k2_ ?_ | refine k3_ ?_ _)); exact BK369.out) hb); have n5_ := a0_ (below_step (by repeat (first | (with_reducible first | exact HB.out | apply b1_ | apply b2_ | apply b3_ | refine b4_ ?_ GE363.out | refine b4_ ?_ GE369.out) | exact HB.out)) hb); clear HO_364001; clear HO_370001; clear BK363; clear BK369; clear HB; have HO_364001 := n0_; have HO_370001 := n1_; have HO378 := n2_; have BK363 := n3_; have BK369 := n4_; have HB := n5_; clear n0_ n1_ n2_ n3_ n4_ n5_; (try clear hb); (try clear hb2); (try clear hk); (try clear hi); (try clear ho0); obtain ⟨Ao65, co65, eo65⟩ := Kd.V_slice HO378.out; subst eo65) | ((with_reducible refine gate_callee (f := 12) rfl ?_); refine goesL_ (some 52) rfl rfl Try.func12 (by kernel_rfl) rfl #[.int .i64 a0, .agg #[.bool t375, .slice Ao65 t376.length co65]] rfl (by (try simp only [List.map_toArray, List.map_cons, List.map_nil]); first | done | rfl | (simp only [List.length_drop, List.length_take]; rfl)) ?_; (with_reducible refine (laws_wrapped.calls kj23 a0 t375 _ _ t376 t379 t382 _ ?side1 ?side2 A33.out).mono ?_); (case side1 => repeat (first | exact (Kd.V_reads' HO378.out).2.2 | (with_reducible refine Kd.C_alloc ?_ _) | (with_reducible refine Kd.C_drewN ?_ _) | (with_reducible refine Kd.C_drew ?_))); (case side2 => exact (Kd.V_reads' HO378.out).2.1); rintro e w66 ⟨v380, rfl, ho0, hb⟩; refine ⟨_, rfl, ?_⟩; have n0_ := a0_ (Kd.V_elder' (by (with_reducible repeat (first | apply v1_ | apply v2_ | apply v3_)); exact HO_364001.out) (Kd.R_base ho0) hb); have n1_ := a0_ (Kd.V_elder' (by (with_reducible repeat (first | apply v1_ | apply v2_ | apply v3_)); exact HO_370001.out) (Kd.R_base ho0) hb); have n2_ := a0_ (Kd.V_elder' (by (with_reducible repeat (first | apply v1_ | apply v2_ | apply v3_)); exact HO378.out) (Kd.R_base ho0) hb); have n3_ := a0_ (Kd.R_lower ho0 (below_size (by repeat (first | (with_reducible first | exact HB.out | apply b1_ | apply b2_ | apply b3_ | refine b4_ ?_ GE363.out | refine b4_ ?_ GE369.out) | exact HB.out)))); have n4_ := a0_ (blk_below (g := gb363) (o := .cells #[.bool t358, .slice Ao14 t359.length co14] 29 (0, 0)) (by (with_reducible repeat (first | refine k1_ ?_ _ | refine k2_ ?_ | refine k3_ ?_ _)); exact BK363.out) hb); have n5_ := a0_ (blk_below (g := gb369) (o := .cells #[.bool x370000_23, .slice Ao63 x370001_23.length co63] 29 (0, 0)) (by (with_reducible repeat (first | refine k1_ ?_ _ | refine k2_ ?_ | refine k3_ ?_ _)); exact BK369.out) hb); have n6_ := a0_ (below_step (by repeat (first | (with_reducible first | exact HB.out | apply b1_ | apply b2_ | apply b3_ | refine b4_ ?_ GE363.out | refine b4_ ?_ GE369.out) | exact HB.out)) hb); clear HO_364001; clear HO_370001; clear HO378; clear BK363; clear BK369; clear HB; have HO_364001 := n0_; have HO_370001 := n1_; have HO378 := n2_; have HO381 := n3_; have BK363 := n4_; have BK369 := n5_; have HB := n6_; clear n0_ n1_ n2_ n3_ n4_ n5_ n6_; (try clear hb); (try clear hb2); (try clear hk); (try clear hi); (try clear ho0)) | ((with_reducible refine gate_callee (f := 18) rfl ?_); refine goesL_ (some 60) rfl rfl Try.func18 (by kernel_rfl) rfl #[.int .i64 a0, .bool a1, .slice A2 l2.length c2, .slice A3 l3.length c3] rfl (by (try simp only [List.map_toArray, List.map_cons, List.map_nil]); first | done | rfl | (simp only [List.length_drop, List.length_take]; rfl)) ?_; (with_reducible refine (impl_DecSum.calls a0 a1 _ _ l2 _ _ l3 t383 false _ ?side1 ?side2 ?side3 ?side4 A34.out).mono ?_); (case side1 => repeat (first | exact (Kd.C_below HR2.out HB.out) | (with_reducible refine Kd.C_alloc ?_ _) | (with_reducible refine Kd.C_drewN ?_ _) | (with_reducible refine Kd.C_drew ?_))); (case side2 => exact HC2.out); (case side3 => repeat (first | exact (Kd.C_below HR3.out HB.out) | (with_reducible refine Kd.C_alloc ?_ _) | (with_reducible refine Kd.C_drewN ?_ _) | (with_reducible refine Kd.C_drew ?_))); (case side4 => exact HC3.out); rintro e w67 ⟨v385, rfl, ho0, hb⟩; refine ⟨_, rfl, ?_⟩; have n0_ := a0_ (Kd.V_below (by (with_reducible repeat (first | apply v1_ | apply v2_ | apply v3_)); exact HO_364001.out) hb); have n1_ := a0_ (Kd.V_below (by (with_reducible repeat (first | apply v1_ | apply v2_ | apply v3_)); exact HO_370001.out) hb); have n2_ := a0_ (Kd.V_below (by (with_reducible repeat (first | apply v1_ | apply v2_ | apply v3_)); exact HO378.out) hb); have n3_ := a0_ (Kd.R_below (by (with_reducible repeat (first | apply r1_ | apply r2_ | apply r3_)); exact HO381.out) hb); have n4_ := a0_ ho0; have n5_ := a0_ (blk_below (g := gb363) (o := .cells #[.bool t358, .slice Ao14 t359.length co14] 29 (0, 0)) (by (with_reducible repeat (first | refine k1_ ?_ _ | refine k2_ ?_ | refine k3_ ?_ _)); exact BK363.out) hb); have n6_ := a0_ (blk_below (g := gb369) (o := .cells #[.bool x370000_23, .slice Ao63 x370001_23.length co63] 29 (0, 0)) (by (with_reducible repeat (first | refine k1_ ?_ _ | refine k2_ ?_ | refine k3_ ?_ _)); exact BK369.out) hb); have n7_ := a0_ (below_step (by repeat (first | (with_reducible first | exact HB.out | apply b1_ | apply b2_ | apply b3_ | refine b4_ ?_ GE363.out | refine b4_ ?_ GE369.out) | exact HB.out)) hb); clear HO_364001; clear HO_370001; clear HO378; clear HO381; clear BK363; clear BK369; clear HB; have HO_364001 := n0_; have HO_370001 := n1_; have HO378 := n2_; have HO381 := n3_; have HO386 := n4_; have BK363 := n5_; have BK369 := n6_; have HB := n7_; clear n0_ n1_ n2_ n3_ n4_ n5_ n6_ n7_; (try clear hb); (try clear hb2); (try clear hk); (try clear hi); (try clear ho0)))
          go_ret
          exact ⟨by first | rfl | (simp [e1_, e2_] <;> rfl) | (simp [*, e1_, e2_] <;> rfl), by repeat (first | (with_reducible first | exact HB.out | apply b1_ | apply b2_ | apply b3_ | refine b4_ ?_ GE363.out | refine b4_ ?_ GE369.out) | exact HB.out)⟩

/-- THE ONE PURE STATEMENT of laws_FnDecSum: yours. -/
def laws_FnDecSum.Pure : Prop := ∀ (a0 : Int) (a1 : Bool) (l2 : List Int) (l3 : List Int), (Lit.int .i64 a0).wf = true → l2.length ≤ maxLen → l2.length * 8 ≤ 140737488351232 → (∀ x ∈ l2, (Lit.int .u64 x).wf = true) → l3.length ≤ maxLen → l3.length * 8 ≤ 140737488351232 → (∀ x ∈ l3, (Lit.int .u64 x).wf = true) → ∃ k, laws_FnDecSum.f k a0 a1 l2 l3 = some true
theorem laws_FnDecSum.walk (P : laws_FnDecSum.Pure) (a0 : Int) (a1 : Bool) (a2 : Option Addr) (len2 cap2 : Nat) (z2 : List Int) (a3 : Option Addr) (len3 cap3 : Nat) (z3 : List Int) (w : World) (w0 : (Lit.int .i64 a0).wf = true) (w2 : (a2 = none ∧ len2 = 0 ∧ cap2 = 0 ∧ z2 = []) ∨ ∃ x, a2 = some x ∧ len2 ≤ cap2 ∧ cap2 ≤ maxLen ∧ z2.length = cap2 ∧ (∀ i, i < z2.length → w.cell? (x.add i) = some (.int .u64 (z2.getD i 0))) ∧ ∀ n ∈ z2, (Lit.int .u64 n).wf = true) (y2 : len2 * 8 ≤ 140737488351232) (w3 : (a3 = none ∧ len3 = 0 ∧ cap3 = 0 ∧ z3 = []) ∨ ∃ x, a3 = some x ∧ len3 ≤ cap3 ∧ cap3 ≤ maxLen ∧ z3.length = cap3 ∧ (∀ i, i < z3.length → w.cell? (x.add i) = some (.int .u64 (z3.getD i 0))) ∧ ∀ n ∈ z3, (Lit.int .u64 n).wf = true) (y3 : len3 * 8 ≤ 140737488351232) :
  Calls Try.prog 5 #[.int .i64 a0, .bool a1, .slice a2 len2 cap2, .slice a3 len3 cap3] w fun e w' => e = .returned (.bool true) ∧ Below w.heap.size w w' := by
 obtain ⟨l2, rfl, hr2, hm2, hw2, hc2⟩ := ReadsInt.ofRowC w2
 obtain ⟨l3, rfl, hr3, hm3, hw3, hc3⟩ := ReadsInt.ofRowC w3
 obtain ⟨k, h⟩ := P a0 a1 l2 l3 w0 hm2 y2 hw2 hm3 y3 hw3
 refine (laws_FnDecSum.calls k a0 a1 _ _ l2 _ _ l3 true w (Kd.C_of_reads (d := (0 : Int)) (h1 := fun _ => rfl) hr2) hc2 (Kd.C_of_reads (d := (0 : Int)) (h1 := fun _ => rfl) hr3) hc3 h).mono ?_
 rintro e w' ⟨rfl, hd⟩
 exact ⟨rfl, hd⟩


end Go.Proofs.Ytiiicmfobljnaaa.V
