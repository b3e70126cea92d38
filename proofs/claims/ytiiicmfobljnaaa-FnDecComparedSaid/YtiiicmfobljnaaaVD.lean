import Derived.Test.YtiiicmfobljnaaaV0
namespace Go.Proofs.Ytiiicmfobljnaaa.V
open Go.RowKit Go.Proofs.YtiiicmfobljnaaaW.PrintWords Go.Proofs.YtiiicmfobljnaaaW.PrintLast Go.Proofs.YtiiicmfobljnaaaW.PrintMore
attribute [local go_sem] max2_int min2_int max_two min_two max_three min_three max_four min_four
set_option linter.unusedVariables false
set_option linter.unusedSimpArgs false

/-! ### decimal_Decimal32: function 80 -/
def decimal_Decimal32.f (a0 : Int) (a1 : Int) : Option (Int) := if a0 > a1 then (some 1) else (if a0 < a1 then (some (-1)) else (some 0))
set_option maxHeartbeats 8000000 in
set_option maxRecDepth 100000 in
theorem decimal_Decimal32.calls (a0 : Int) (a1 : Int) (r : Int) (w : World) (h : decimal_Decimal32.f a0 a1 = some r) :
  Calls Try.prog 80 #[.int .i32 a0, .int .i32 a1] w fun e w' => e = .returned (.int .i64 r) ∧ Drawn0 w w' := by
 have H : (if a0 > a1 then (some 1) else (if a0 < a1 then (some (-1)) else (some 0))) = some r := h
 clear h
 by_cases c3 : a0 > a1
 ·
  rw [if_pos c3] at H
  have c3b0 : decide (a1 < a0) = true := d2_ c3
  clear c3
  obtain rfl := o1_ H
  go_enter Try.func80, Try.ntmps80
  go_wp2
  go_ret
  exact ⟨by first | rfl | (simp; done) | (simp [*]; done), by repeat (first | exact Drawn0.refl _ | apply Drawn0.step)⟩
 ·
  rw [if_neg c3] at H
  have c3b0 : decide (a1 < a0) = false := d3_ c3
  clear c3
  by_cases c4 : a0 < a1
  ·
   rw [if_pos c4] at H
   have c4b0 : decide (a0 < a1) = true := d2_ c4
   clear c4
   obtain rfl := o1_ H
   go_enter Try.func80, Try.ntmps80
   go_wp2
   go_ret
   exact ⟨by first | rfl | (simp; done) | (simp [*]; done), by repeat (first | exact Drawn0.refl _ | apply Drawn0.step)⟩
  ·
   rw [if_neg c4] at H
   have c4b0 : decide (a0 < a1) = false := d3_ c4
   clear c4
   obtain rfl := o1_ H
   go_enter Try.func80, Try.ntmps80
   go_wp2
   go_ret
   exact ⟨by first | rfl | (simp; done) | (simp [*]; done), by repeat (first | exact Drawn0.refl _ | apply Drawn0.step)⟩

/-! ### decimal_Decimal32_Cmp: function 50 -/
def decimal_Decimal32_Cmp.f (a0 : Int) (a1 : Int) : Option (Int) := (decimal_Decimal32.f a0 a1).bind fun t233 => (some t233)
set_option maxHeartbeats 8000000 in
set_option maxRecDepth 100000 in
theorem decimal_Decimal32_Cmp.calls (a0 : Int) (a1 : Int) (r : Int) (w : World) (h : decimal_Decimal32_Cmp.f a0 a1 = some r) :
  Calls Try.prog 50 #[.int .i32 a0, .int .i32 a1] w fun e w' => e = .returned (.int .i64 r) ∧ Drawn0 w w' := by
 have H : ((decimal_Decimal32.f a0 a1).bind fun t233 => (some t233)) = some r := h
 clear h
 replace H := Option.bind_eq_some_iff.mp H
 obtain ⟨t233, A30, H⟩ := H
 replace H : (some t233) = some r := H
 have A3 := a0_ A30
 clear A30
 obtain rfl := o1_ H
 go_enter Try.func50, Try.ntmps50
 go_wp2_with (first | ((with_reducible refine gate_callee (f := 80) rfl ?_); refine goesL_ (some 7) rfl rfl Try.func80 (by kernel_rfl) rfl #[.int .i32 a0, .int .i32 a1] rfl (by (try simp only [List.map_toArray, List.map_cons, List.map_nil]); first | done | rfl | (simp only [List.length_drop, List.length_take]; rfl)) ?_; (with_reducible refine (decimal_Decimal32.calls a0 a1 t233 _ A3.out).mono ?_); rintro e w' ⟨rfl, ⟨nd, rfl⟩⟩; refine ⟨_, rfl, ?_⟩))
 go_ret
 exact ⟨by first | rfl | (simp; done) | (simp [*]; done), by repeat (first | exact Drawn0.refl _ | apply Drawn0.step)⟩

/-! ### decimal_Decimal32_Sign: function 51 -/
def decimal_Decimal32_Sign.f (a0 : Int) : Option (Int) := if a0 = 0 then (some 0) else (some (wrap64 (Go.bits .or .i32 1 (a0 / 2147483648))))
set_option maxHeartbeats 8000000 in
set_option maxRecDepth 100000 in
theorem decimal_Decimal32_Sign.calls (a0 : Int) (r : Int) (w : World) (h : decimal_Decimal32_Sign.f a0 = some r) :
  Calls Try.prog 51 #[.int .i32 a0] w fun e w' => e = .returned (.int .i64 r) ∧ Drawn0 w w' := by
 have H : (if a0 = 0 then (some 0) else (some (wrap64 (Go.bits .or .i32 1 (a0 / 2147483648))))) = some r := h
 clear h
 by_cases c2 : a0 = 0
 ·
  rw [if_pos c2] at H
  have c2b0 : (a0 == 0) = true := beq_iff_eq.mpr c2
  have c2b1 : (a0 != 0) = false := bne_eq_false_iff_eq.mpr c2
  clear c2
  obtain rfl := o1_ H
  go_enter Try.func51, Try.ntmps51
  go_wp2
  go_ret
  exact ⟨by first | rfl | (simp; done) | (simp [*]; done), by repeat (first | exact Drawn0.refl _ | apply Drawn0.step)⟩
 ·
  rw [if_neg c2] at H
  have c2b0 : (a0 == 0) = false := beq_eq_false_iff_ne.mpr c2
  have c2b1 : (a0 != 0) = true := bne_iff_ne.mpr c2
  obtain rfl := o1_ H
  go_enter Try.func51, Try.ntmps51
  go_wp2
  go_ret
  exact ⟨by first | rfl | (simp; done) | (simp [*]; done), by repeat (first | exact Drawn0.refl _ | apply Drawn0.step)⟩

/-! ### decimal_Decimal64: function 81 -/
def decimal_Decimal64.f (a0 : Int) (a1 : Int) : Option (Int) := if a0 > a1 then (some 1) else (if a0 < a1 then (some (-1)) else (some 0))
set_option maxHeartbeats 8000000 in
set_option maxRecDepth 100000 in
theorem decimal_Decimal64.calls (a0 : Int) (a1 : Int) (r : Int) (w : World) (h : decimal_Decimal64.f a0 a1 = some r) :
  Calls Try.prog 81 #[.int .i64 a0, .int .i64 a1] w fun e w' => e = .returned (.int .i64 r) ∧ Drawn0 w w' := by
 have H : (if a0 > a1 then (some 1) else (if a0 < a1 then (some (-1)) else (some 0))) = some r := h
 clear h
 by_cases c3 : a0 > a1
 ·
  rw [if_pos c3] at H
  have c3b0 : decide (a1 < a0) = true := d2_ c3
  clear c3
  obtain rfl := o1_ H
  go_enter Try.func81, Try.ntmps81
  go_wp2
  go_ret
  exact ⟨by first | rfl | (simp; done) | (simp [*]; done), by repeat (first | exact Drawn0.refl _ | apply Drawn0.step)⟩
 ·
  rw [if_neg c3] at H
  have c3b0 : decide (a1 < a0) = false := d3_ c3
  clear c3
  by_cases c4 : a0 < a1
  ·
   rw [if_pos c4] at H
   have c4b0 : decide (a0 < a1) = true := d2_ c4
   clear c4
   obtain rfl := o1_ H
   go_enter Try.func81, Try.ntmps81
   go_wp2
   go_ret
   exact ⟨by first | rfl | (simp; done) | (simp [*]; done), by repeat (first | exact Drawn0.refl _ | apply Drawn0.step)⟩
  ·
   rw [if_neg c4] at H
   have c4b0 : decide (a0 < a1) = false := d3_ c4
   clear c4
   obtain rfl := o1_ H
   go_enter Try.func81, Try.ntmps81
   go_wp2
   go_ret
   exact ⟨by first | rfl | (simp; done) | (simp [*]; done), by repeat (first | exact Drawn0.refl _ | apply Drawn0.step)⟩

/-! ### decimal_Decimal64_Cmp: function 52 -/
def decimal_Decimal64_Cmp.f (a0 : Int) (a1 : Int) : Option (Int) := (decimal_Decimal64.f a0 a1).bind fun t234 => (some t234)
set_option maxHeartbeats 8000000 in
set_option maxRecDepth 100000 in
theorem decimal_Decimal64_Cmp.calls (a0 : Int) (a1 : Int) (r : Int) (w : World) (h : decimal_Decimal64_Cmp.f a0 a1 = some r) :
  Calls Try.prog 52 #[.int .i64 a0, .int .i64 a1] w fun e w' => e = .returned (.int .i64 r) ∧ Drawn0 w w' := by
 have H : ((decimal_Decimal64.f a0 a1).bind fun t234 => (some t234)) = some r := h
 clear h
 replace H := Option.bind_eq_some_iff.mp H
 obtain ⟨t234, A30, H⟩ := H
 replace H : (some t234) = some r := H
 have A3 := a0_ A30
 clear A30
 obtain rfl := o1_ H
 go_enter Try.func52, Try.ntmps52
 go_wp2_with (first | ((with_reducible refine gate_callee (f := 81) rfl ?_); refine goesL_ (some 7) rfl rfl Try.func81 (by kernel_rfl) rfl #[.int .i64 a0, .int .i64 a1] rfl (by (try simp only [List.map_toArray, List.map_cons, List.map_nil]); first | done | rfl | (simp only [List.length_drop, List.length_take]; rfl)) ?_; (with_reducible refine (decimal_Decimal64.calls a0 a1 t234 _ A3.out).mono ?_); rintro e w' ⟨rfl, ⟨nd, rfl⟩⟩; refine ⟨_, rfl, ?_⟩))
 go_ret
 exact ⟨by first | rfl | (simp; done) | (simp [*]; done), by repeat (first | exact Drawn0.refl _ | apply Drawn0.step)⟩

/-! ### decimal_Decimal64_Sign: function 53 -/
def decimal_Decimal64_Sign.f (a0 : Int) : Option (Int) := if a0 = 0 then (some 0) else (some (Go.bits .or .i64 1 (a0 / 9223372036854775808)))
set_option maxHeartbeats 8000000 in
set_option maxRecDepth 100000 in
theorem decimal_Decimal64_Sign.calls (a0 : Int) (r : Int) (w : World) (h : decimal_Decimal64_Sign.f a0 = some r) :
  Calls Try.prog 53 #[.int .i64 a0] w fun e w' => e = .returned (.int .i64 r) ∧ Drawn0 w w' := by
 have H : (if a0 = 0 then (some 0) else (some (Go.bits .or .i64 1 (a0 / 9223372036854775808)))) = some r := h
 clear h
 by_cases c2 : a0 = 0
 ·
  rw [if_pos c2] at H
  have c2b0 : (a0 == 0) = true := beq_iff_eq.mpr c2
  have c2b1 : (a0 != 0) = false := bne_eq_false_iff_eq.mpr c2
  clear c2
  obtain rfl := o1_ H
  go_enter Try.func53, Try.ntmps53
  go_wp2
  go_ret
  exact ⟨by first | rfl | (simp; done) | (simp [*]; done), by repeat (first | exact Drawn0.refl _ | apply Drawn0.step)⟩
 ·
  rw [if_neg c2] at H
  have c2b0 : (a0 == 0) = false := beq_eq_false_iff_ne.mpr c2
  have c2b1 : (a0 != 0) = true := bne_iff_ne.mpr c2
  obtain rfl := o1_ H
  go_enter Try.func53, Try.ntmps53
  go_wp2
  go_ret
  exact ⟨by first | rfl | (simp; done) | (simp [*]; done), by repeat (first | exact Drawn0.refl _ | apply Drawn0.step)⟩

/-! ### decimal128_Num_Less: function 55 -/
def decimal128_Num_Less.f (a0_0 : Int) (a0_1 : Int) (a1_0 : Int) (a1_1 : Int) : Option (Bool) := if a0_1 < a1_1 then (some true) else (if a0_1 = a1_1 then (some (decide (a0_0 < a1_0))) else (some false))
set_option maxHeartbeats 8000000 in
set_option maxRecDepth 100000 in
theorem decimal128_Num_Less.calls (a0_0 : Int) (a0_1 : Int) (a1_0 : Int) (a1_1 : Int) (r : Bool) (w : World) (h : decimal128_Num_Less.f a0_0 a0_1 a1_0 a1_1 = some r) :
  Calls Try.prog 55 #[.agg #[.int .u64 a0_0, .int .i64 a0_1], .agg #[.int .u64 a1_0, .int .i64 a1_1]] w fun e w' => e = .returned (.bool r) ∧ Below w.heap.size w w' := by
 have hu57 := Try.underlying57
 have HB := a0_ (Below.refl w.heap.size w)
 have H : (if a0_1 < a1_1 then (some true) else (if a0_1 = a1_1 then (some (decide (a0_0 < a1_0))) else (some false))) = some r := h
 clear h
 by_cases c3 : a0_1 < a1_1
 ·
  rw [if_pos c3] at H
  have c3b0 : decide (a0_1 < a1_1) = true := d2_ c3
  clear c3
  obtain rfl := o1_ H
  go_enter Try.func55, Try.ntmps55
  go_wp2_with (first | ((with_reducible refine gate_dst (N := 2) rfl ?_); refine box_event ?hg (N := 2) ?hd (cs := #[.int .u64 a0_0, .int .i64 a0_1]) (t := 57) ?hr ?_; (case hd => rfl); (case hg => rfl); (case hr => first | (go_simp; done) | (go_simp; rfl)); intro gb235 hg w4 hbox hb; have n0_ := a0_ (below_step (by repeat (first | (with_reducible first | exact HB.out | apply b1_ | apply b2_ | apply b3_) | exact HB.out)) hb); have n1_ := a0_ (hbox); have n2_ := a0_ ((by rw [hg]; exact (below_size (by repeat (first | (with_reducible first | exact HB.out | apply b1_ | apply b2_ | apply b3_) | exact HB.out))) : w.heap.size ≤ gb235)); have n3_ := a0_ ((by rw [hg]; exact (below_size (by repeat (first | (with_reducible first | exact HB.out | apply b1_ | apply b2_ | apply b3_) | exact HB.out))) : w.heap.size ≤ gb235)); clear HB; have HB := n0_; have BK235 := n1_; have GW235 := n2_; have GE235 := n3_; clear n0_ n1_ n2_ n3_; clear hb hbox hg) | ((with_reducible refine gate_dst (N := 3) rfl ?_); refine box_event ?hg (N := 3) ?hd (cs := #[.int .u64 a1_0, .int .i64 a1_1]) (t := 57) ?hr ?_; (case hd => rfl); (case hg => rfl); (case hr => first | (go_simp; done) | (go_simp; rfl)); intro gb236 hg w5 hbox hb; have n0_ := a0_ (blk_below (g := gb235) (o := .cells #[.int .u64 a0_0, .int .i64 a0_1] 57 (0, 0)) (by (with_reducible repeat (first | refine k1_ ?_ _ | refine k2_ ?_ | refine k3_ ?_ _)); exact BK235.out) hb); have n1_ := a0_ (below_step (by repeat (first | (with_reducible first | exact HB.out | apply b1_ | apply b2_ | apply b3_ | refine b4_ ?_ GE235.out) | exact HB.out)) hb); have n2_ := a0_ (hbox); have n3_ := a0_ ((by rw [hg]; exact (below_size (by repeat (first | (with_reducible first | exact HB.out | apply b1_ | apply b2_ | apply b3_ | refine b4_ ?_ GE235.out) | exact HB.out))) : w.heap.size ≤ gb236)); have n4_ := a0_ ((by rw [hg]; exact (below_size (by repeat (first | (with_reducible first | exact HB.out | apply b1_ | apply b2_ | apply b3_ | refine b4_ ?_ GE235.out) | exact HB.out))) : w.heap.size ≤ gb236)); have n5_ := a0_ ((by rw [hg]; exact Nat.ne_of_lt (blk_lt (g := gb235) (o := .cells #[.int .u64 a0_0, .int .i64 a0_1] 57 (0, 0)) (by (with_reducible repeat (first | refine k1_ ?_ _ | refine k2_ ?_ | refine k3_ ?_ _)); exact BK235.out)) : gb235 ≠ gb236)); have n6_ := a0_ ((by rw [hg]; exact Nat.ne_of_gt (blk_lt (g := gb235) (o := .cells #[.int .u64 a0_0, .int .i64 a0_1] 57 (0, 0)) (by (with_reducible repeat (first | refine k1_ ?_ _ | refine k2_ ?_ | refine k3_ ?_ _)); exact BK235.out)) : gb236 ≠ gb235)); clear BK235; clear HB; have BK235 := n0_; have HB := n1_; have BK236 := n2_; have GW236 := n3_; have GE236 := n4_; have NB235_236 := n5_; have NB236_235 := n6_; clear n0_ n1_ n2_ n3_ n4_ n5_ n6_; clear hb hbox hg; have hnb6 := NB235_236.out; have hnc6 := NB236_235.out; have hcz7_0 : w5.cell? ⟨gb235, 0, none⟩ = some (.int .u64 a0_0) := (blk_cell BK235.out 0).trans rfl; have hcz7_1 : w5.cell? ⟨gb235, 1, none⟩ = some (.int .i64 a0_1) := (blk_cell BK235.out 1).trans rfl; have hfz7_0 := blk_frozen BK235.out 0; have hfz7_1 := blk_frozen BK235.out 1; have hcz8_0 : w5.cell? ⟨gb236, 0, none⟩ = some (.int .u64 a1_0) := (blk_cell BK236.out 0).trans rfl; have hcz8_1 : w5.cell? ⟨gb236, 1, none⟩ = some (.int .i64 a1_1) := (blk_cell BK236.out 1).trans rfl; have hfz8_0 := blk_frozen BK236.out 0; have hfz8_1 := blk_frozen BK236.out 1))
  go_ret
  exact ⟨by first | rfl | (simp [e1_, e2_] <;> rfl) | (simp [*, e1_, e2_] <;> rfl), by repeat (first | (with_reducible first | exact HB.out | apply b1_ | apply b2_ | apply b3_ | refine b4_ ?_ GE235.out | refine b4_ ?_ GE236.out) | exact HB.out)⟩
 ·
  rw [if_neg c3] at H
  have c3b0 : decide (a0_1 < a1_1) = false := d3_ c3
  clear c3
  by_cases c9 : a0_1 = a1_1
  ·
   rw [if_pos c9] at H
   have c9b0 : (a0_1 == a1_1) = true := beq_iff_eq.mpr c9
   have c9b1 : (a0_1 != a1_1) = false := bne_eq_false_iff_eq.mpr c9
   clear c9
   obtain rfl := o1_ H
   go_enter Try.func55, Try.ntmps55
   go_wp2_with (first | ((with_reducible refine gate_dst (N := 2) rfl ?_); refine box_event ?hg (N := 2) ?hd (cs := #[.int .u64 a0_0, .int .i64 a0_1]) (t := 57) ?hr ?_; (case hd => rfl); (case hg => rfl); (case hr => first | (go_simp; done) | (go_simp; rfl)); intro gb235 hg w10 hbox hb; have n0_ := a0_ (below_step (by repeat (first | (with_reducible first | exact HB.out | apply b1_ | apply b2_ | apply b3_) | exact HB.out)) hb); have n1_ := a0_ (hbox); have n2_ := a0_ ((by rw [hg]; exact (below_size (by repeat (first | (with_reducible first | exact HB.out | apply b1_ | apply b2_ | apply b3_) | exact HB.out))) : w.heap.size ≤ gb235)); have n3_ := a0_ ((by rw [hg]; exact (below_size (by repeat (first | (with_reducible first | exact HB.out | apply b1_ | apply b2_ | apply b3_) | exact HB.out))) : w.heap.size ≤ gb235)); clear HB; have HB := n0_; have BK235 := n1_; have GW235 := n2_; have GE235 := n3_; clear n0_ n1_ n2_ n3_; clear hb hbox hg) | ((with_reducible refine gate_dst (N := 3) rfl ?_); refine box_event ?hg (N := 3) ?hd (cs := #[.int .u64 a1_0, .int .i64 a1_1]) (t := 57) ?hr ?_; (case hd => rfl); (case hg => rfl); (case hr => first | (go_simp; done) | (go_simp; rfl)); intro gb236 hg w11 hbox hb; have n0_ := a0_ (blk_below (g := gb235) (o := .cells #[.int .u64 a0_0, .int .i64 a0_1] 57 (0, 0)) (by (with_reducible repeat (first | refine k1_ ?_ _ | refine k2_ ?_ | refine k3_ ?_ _)); exact BK235.out) hb); have n1_ := a0_ (below_step (by repeat (first | (with_reducible first | exact HB.out | apply b1_ | apply b2_ | apply b3_ | refine b4_ ?_ GE235.out) | exact HB.out)) hb); have n2_ := a0_ (hbox); have n3_ := a0_ ((by rw [hg]; exact (below_size (by repeat (first | (with_reducible first | exact HB.out | apply b1_ | apply b2_ | apply b3_ | refine b4_ ?_ GE235.out) | exact HB.out))) : w.heap.size ≤ gb236)); have n4_ := a0_ ((by rw [hg]; exact (below_size (by repeat (first | (with_reducible first | exact HB.out | apply b1_ | apply b2_ | apply b3_ | refine b4_ ?_ GE235.out) | exact HB.out))) : w.heap.size ≤ gb236)); have n5_ := a0_ ((by rw [hg]; exact Nat.ne_of_lt (blk_lt (g := gb235) (o := .cells #[.int .u64 a0_0, .int .i64 a0_1] 57 (0, 0)) (by (with_reducible repeat (first | refine k1_ ?_ _ | refine k2_ ?_ | refine k3_ ?_ _)); exact BK235.out)) : gb235 ≠ gb236)); have n6_ := a0_ ((by rw [hg]; exact Nat.ne_of_gt (blk_lt (g := gb235) (o := .cells #[.int .u64 a0_0, .int .i64 a0_1] 57 (0, 0)) (by (with_reducible repeat (first | refine k1_ ?_ _ | refine k2_ ?_ | refine k3_ ?_ _)); exact BK235.out)) : gb236 ≠ gb235)); clear BK235; clear HB; have BK235 := n0_; have HB := n1_; have BK236 := n2_; have GW236 := n3_; have GE236 := n4_; have NB235_236 := n5_; have NB236_235 := n6_; clear n0_ n1_ n2_ n3_ n4_ n5_ n6_; clear hb hbox hg; have hnb12 := NB235_236.out; have hnc12 := NB236_235.out; have hcz13_0 : w11.cell? ⟨gb235, 0, none⟩ = some (.int .u64 a0_0) := (blk_cell BK235.out 0).trans rfl; have hcz13_1 : w11.cell? ⟨gb235, 1, none⟩ = some (.int .i64 a0_1) := (blk_cell BK235.out 1).trans rfl; have hfz13_0 := blk_frozen BK235.out 0; have hfz13_1 := blk_frozen BK235.out 1; have hcz14_0 : w11.cell? ⟨gb236, 0, none⟩ = some (.int .u64 a1_0) := (blk_cell BK236.out 0).trans rfl; have hcz14_1 : w11.cell? ⟨gb236, 1, none⟩ = some (.int .i64 a1_1) := (blk_cell BK236.out 1).trans rfl; have hfz14_0 := blk_frozen BK236.out 0; have hfz14_1 := blk_frozen BK236.out 1))
   go_ret
   exact ⟨by first | rfl | (simp [e1_, e2_] <;> rfl) | (simp [*, e1_, e2_] <;> rfl), by repeat (first | (with_reducible first | exact HB.out | apply b1_ | apply b2_ | apply b3_ | refine b4_ ?_ GE235.out | refine b4_ ?_ GE236.out) | exact HB.out)⟩
  ·
   rw [if_neg c9] at H
   have c9b0 : (a0_1 == a1_1) = false := beq_eq_false_iff_ne.mpr c9
   have c9b1 : (a0_1 != a1_1) = true := bne_iff_ne.mpr c9
   obtain rfl := o1_ H
   go_enter Try.func55, Try.ntmps55
   go_wp2_with (first | ((with_reducible refine gate_dst (N := 2) rfl ?_); refine box_event ?hg (N := 2) ?hd (cs := #[.int .u64 a0_0, .int .i64 a0_1]) (t := 57) ?hr ?_; (case hd => rfl); (case hg => rfl); (case hr => first | (go_simp; done) | (go_simp; rfl)); intro gb235 hg w15 hbox hb; have n0_ := a0_ (below_step (by repeat (first | (with_reducible first | exact HB.out | apply b1_ | apply b2_ | apply b3_) | exact HB.out)) hb); have n1_ := a0_ (hbox); have n2_ := a0_ ((by rw [hg]; exact (below_size (by repeat (first | (with_reducible first | exact HB.out | apply b1_ | apply b2_ | apply b3_) | exact HB.out))) : w.heap.size ≤ gb235)); have n3_ := a0_ ((by rw [hg]; exact (below_size (by repeat (first | (with_reducible first | exact HB.out | apply b1_ | apply b2_ | apply b3_) | exact HB.out))) : w.heap.size ≤ gb235)); clear HB; have HB := n0_; have BK235 := n1_; have GW235 := n2_; have GE235 := n3_; clear n0_ n1_ n2_ n3_; clear hb hbox hg) | ((with_reducible refine gate_dst (N := 3) rfl ?_); refine box_event ?hg (N := 3) ?hd (cs := #[.int .u64 a1_0, .int .i64 a1_1]) (t := 57) ?hr ?_; (case hd => rfl); (case hg => rfl); (case hr => first | (go_simp; done) | (go_simp; rfl)); intro gb236 hg w16 hbox hb; have n0_ := a0_ (blk_below (g := gb235) (o := .cells #[.int .u64 a0_0, .int .i64 a0_1] 57 (0, 0)) (by (with_reducible repeat (first | refine k1_ ?_ _ | refine k2_ ?_ | refine k3_ ?_ _)); exact BK235.out) hb); have n1_ := a0_ (below_step (by repeat (first | (with_reducible first | exact HB.out | apply b1_ | apply b2_ | apply b3_ | refine b4_ ?_ GE235.out) | exact HB.out)) hb); have n2_ := a0_ (hbox); have n3_ := a0_ ((by rw [hg]; exact (below_size (by repeat (first | (with_reducible first | exact HB.out | apply b1_ | apply b2_ | apply b3_ | refine b4_ ?_ GE235.out) | exact HB.out))) : w.heap.size ≤ gb236)); have n4_ := a0_ ((by rw [hg]; exact (below_size (by repeat (first | (with_reducible first | exact HB.out | apply b1_ | apply b2_ | apply b3_ | refine b4_ ?_ GE235.out) | exact HB.out))) : w.heap.size ≤ gb236)); have n5_ := a0_ ((by rw [hg]; exact Nat.ne_of_lt (blk_lt (g := gb235) (o := .cells #[.int .u64 a0_0, .int .i64 a0_1] 57 (0, 0)) (by (with_reducible repeat (first | refine k1_ ?_ _ | refine k2_ ?_ | refine k3_ ?_ _)); exact BK235.out)) : gb235 ≠ gb236)); have n6_ := a0_ ((by rw [hg]; exact Nat.ne_of_gt (blk_lt (g := gb235) (o := .cells #[.int .u64 a0_0, .int .i64 a0_1] 57 (0, 0)) (by (with_reducible repeat (first | refine k1_ ?_ _ | refine k2_ ?_ | refine k3_ ?_ _)); exact BK235.out)) : gb236 ≠ gb235)); clear BK235; clear HB; have BK235 := n0_; have HB := n1_; have BK236 := n2_; have GW236 := n3_; have GE236 := n4_; have NB235_236 := n5_; have NB236_235 := n6_; clear n0_ n1_ n2_ n3_ n4_ n5_ n6_; clear hb hbox hg; have hnb17 := NB235_236.out; have hnc17 := NB236_235.out; have hcz18_0 : w16.cell? ⟨gb235, 0, none⟩ = some (.int .u64 a0_0) := (blk_cell BK235.out 0).trans rfl; have hcz18_1 : w16.cell? ⟨gb235, 1, none⟩ = some (.int .i64 a0_1) := (blk_cell BK235.out 1).trans rfl; have hfz18_0 := blk_frozen BK235.out 0; have hfz18_1 := blk_frozen BK235.out 1; have hcz19_0 : w16.cell? ⟨gb236, 0, none⟩ = some (.int .u64 a1_0) := (blk_cell BK236.out 0).trans rfl; have hcz19_1 : w16.cell? ⟨gb236, 1, none⟩ = some (.int .i64 a1_1) := (blk_cell BK236.out 1).trans rfl; have hfz19_0 := blk_frozen BK236.out 0; have hfz19_1 := blk_frozen BK236.out 1))
   go_ret
   exact ⟨by first | rfl | (simp [e1_, e2_] <;> rfl) | (simp [*, e1_, e2_] <;> rfl), by repeat (first | (with_reducible first | exact HB.out | apply b1_ | apply b2_ | apply b3_ | refine b4_ ?_ GE235.out | refine b4_ ?_ GE236.out) | exact HB.out)⟩

/-! ### decimal128_Num_Greater: function 57 -/
def decimal128_Num_Greater.f (a0_0 : Int) (a0_1 : Int) (a1_0 : Int) (a1_1 : Int) : Option (Bool) := (decimal128_Num_Less.f a1_0 a1_1 a0_0 a0_1).bind fun t239 => (some t239)
set_option maxHeartbeats 8000000 in
set_option maxRecDepth 100000 in
theorem decimal128_Num_Greater.calls (a0_0 : Int) (a0_1 : Int) (a1_0 : Int) (a1_1 : Int) (r : Bool) (w : World) (h : decimal128_Num_Greater.f a0_0 a0_1 a1_0 a1_1 = some r) :
  Calls Try.prog 57 #[.agg #[.int .u64 a0_0, .int .i64 a0_1], .agg #[.int .u64 a1_0, .int .i64 a1_1]] w fun e w' => e = .returned (.bool r) ∧ Below w.heap.size w w' := by
 have hu57 := Try.underlying57
 have HB := a0_ (Below.refl w.heap.size w)
 have H : ((decimal128_Num_Less.f a1_0 a1_1 a0_0 a0_1).bind fun t239 => (some t239)) = some r := h
 clear h
 replace H := Option.bind_eq_some_iff.mp H
 obtain ⟨t239, A30, H⟩ := H
 replace H : (some t239) = some r := H
 have A3 := a0_ A30
 clear A30
 obtain rfl := o1_ H
 go_enter Try.func57, Try.ntmps57
 go_wp2_with (first | ((with_reducible refine gate_dst (N := 2) rfl ?_); refine box_event ?hg (N := 2) ?hd (cs := #[.int .u64 a0_0, .int .i64 a0_1]) (t := 57) ?hr ?_; (case hd => rfl); (case hg => rfl); (case hr => first | (go_simp; done) | (go_simp; rfl)); intro gb237 hg w4 hbox hb; have n0_ := a0_ (below_step (by repeat (first | (with_reducible first | exact HB.out | apply b1_ | apply b2_ | apply b3_) | exact HB.out)) hb); have n1_ := a0_ (hbox); have n2_ := a0_ ((by rw [hg]; exact (below_size (by repeat (first | (with_reducible first | exact HB.out | apply b1_ | apply b2_ | apply b3_) | exact HB.out))) : w.heap.size ≤ gb237)); have n3_ := a0_ ((by rw [hg]; exact (below_size (by repeat (first | (with_reducible first | exact HB.out | apply b1_ | apply b2_ | apply b3_) | exact HB.out))) : w.heap.size ≤ gb237)); clear HB; have HB := n0_; have BK237 := n1_; have GW237 := n2_; have GE237 := n3_; clear n0_ n1_ n2_ n3_; clear hb hbox hg) | ((with_reducible refine gate_dst (N := 3) rfl ?_); refine box_event ?hg (N := 3) ?hd (cs := #[.int .u64 a1_0, .int .i64 a1_1]) (t := 57) ?hr ?_; (case hd => rfl); (case hg => rfl); (case hr => first | (go_simp; done) | (go_simp; rfl)); intro gb238 hg w5 hbox hb; have n0_ := a0_ (blk_below (g := gb237) (o := .cells #[.int .u64 a0_0, .int .i64 a0_1] 57 (0, 0)) (by (with_reducible repeat (first | refine k1_ ?_ _ | refine k2_ ?_ | refine k3_ ?_ _)); exact BK237.out) hb); have n1_ := a0_ (below_step (by repeat (first | (with_reducible first | exact HB.out | apply b1_ | apply b2_ | apply b3_ | refine b4_ ?_ GE237.out) | exact HB.out)) hb); have n2_ := a0_ (hbox); have n3_ := a0_ ((by rw [hg]; exact (below_size (by repeat (first | (with_reducible first | exact HB.out | apply b1_ | apply b2_ | apply b3_ | refine b4_ ?_ GE237.out) | exact HB.out))) : w.heap.size ≤ gb238)); have n4_ := a0_ ((by rw [hg]; exact (below_size (by repeat (first | (with_reducible first | exact HB.out | apply b1_ | apply b2_ | apply b3_ | refine b4_ ?_ GE237.out) | exact HB.out))) : w.heap.size ≤ gb238)); have n5_ := a0_ ((by rw [hg]; exact Nat.ne_of_lt (blk_lt (g := gb237) (o := .cells #[.int .u64 a0_0, .int .i64 a0_1] 57 (0, 0)) (by (with_reducible repeat (first | refine k1_ ?_ _ | refine k2_ ?_ | refine k3_ ?_ _)); exact BK237.out)) : gb237 ≠ gb238)); have n6_ := a0_ ((by rw [hg]; exact Nat.ne_of_gt (blk_lt (g := gb237) (o := .cells #[.int .u64 a0_0, .int .i64 a0_1] 57 (0, 0)) (by (with_reducible repeat (first | refine k1_ ?_ _ | refine k2_ ?_ | refine k3_ ?_ _)); exact BK237.out)) : gb238 ≠ gb237)); clear BK237; clear HB; have BK237 := n0_; have HB := n1_; have BK238 := n2_; have GW238 := n3_; have GE238 := n4_; have NB237_238 := n5_; have NB238_237 := n6_; clear n0_ n1_ n2_ n3_ n4_ n5_ n6_; clear hb hbox hg; have hnb6 := NB238_237.out; have hnc6 := NB237_238.out; have hcz7_0 : w5.cell? ⟨gb238, 0, none⟩ = some (.int .u64 a1_0) := (blk_cell BK238.out 0).trans rfl; have hcz7_1 : w5.cell? ⟨gb238, 1, none⟩ = some (.int .i64 a1_1) := (blk_cell BK238.out 1).trans rfl; have hfz7_0 := blk_frozen BK238.out 0; have hfz7_1 := blk_frozen BK238.out 1; have hcz8_0 : w5.cell? ⟨gb237, 0, none⟩ = some (.int .u64 a0_0) := (blk_cell BK237.out 0).trans rfl; have hcz8_1 : w5.cell? ⟨gb237, 1, none⟩ = some (.int .i64 a0_1) := (blk_cell BK237.out 1).trans rfl; have hfz8_0 := blk_frozen BK237.out 0; have hfz8_1 := blk_frozen BK237.out 1) | ((with_reducible refine gate_callee (f := 55) rfl ?_); refine goesL_ (some 7) rfl rfl Try.func55 (by kernel_rfl) rfl #[.agg #[.int .u64 a1_0, .int .i64 a1_1], .agg #[.int .u64 a0_0, .int .i64 a0_1]] rfl (by (try simp only [List.map_toArray, List.map_cons, List.map_nil]); first | done | rfl | (simp only [List.length_drop, List.length_take]; rfl)) ?_; (with_reducible refine (decimal128_Num_Less.calls a1_0 a1_1 a0_0 a0_1 t239 _ A3.out).mono ?_); rintro e w9 ⟨rfl, hb⟩; refine ⟨_, rfl, ?_⟩; have n0_ := a0_ (blk_below (g := gb237) (o := .cells #[.int .u64 a0_0, .int .i64 a0_1] 57 (0, 0)) (by (with_reducible repeat (first | refine k1_ ?_ _ | refine k2_ ?_ | refine k3_ ?_ _)); exact BK237.out) hb); have n1_ := a0_ (blk_below (g := gb238) (o := .cells #[.int .u64 a1_0, .int .i64 a1_1] 57 (0, 0)) (by (with_reducible repeat (first | refine k1_ ?_ _ | refine k2_ ?_ | refine k3_ ?_ _)); exact BK238.out) hb); have n2_ := a0_ (below_step (by repeat (first | (with_reducible first | exact HB.out | apply b1_ | apply b2_ | apply b3_ | refine b4_ ?_ GE237.out | refine b4_ ?_ GE238.out) | exact HB.out)) hb); clear BK237; clear BK238; clear HB; have BK237 := n0_; have BK238 := n1_; have HB := n2_; clear n0_ n1_ n2_; (try clear hb); (try clear hb2); (try clear hk); (try clear hi)))
 go_ret
 exact ⟨by first | rfl | (simp [e1_, e2_] <;> rfl) | (simp [*, e1_, e2_] <;> rfl), by repeat (first | (with_reducible first | exact HB.out | apply b1_ | apply b2_ | apply b3_ | refine b4_ ?_ GE237.out | refine b4_ ?_ GE238.out) | exact HB.out)⟩

/-! ### decimal128_Num_Cmp: function 54 -/
def decimal128_Num_Cmp.f (a0_0 : Int) (a0_1 : Int) (a1_0 : Int) (a1_1 : Int) : Option (Int) := (decimal128_Num_Greater.f a0_0 a0_1 a1_0 a1_1).bind fun t242 => (if t242 = true then (some 1) else ((decimal128_Num_Less.f a0_0 a0_1 a1_0 a1_1).bind fun t243 => (if t243 = true then (some (-1)) else (some 0))))
set_option maxHeartbeats 8000000 in
set_option maxRecDepth 100000 in
theorem decimal128_Num_Cmp.calls (a0_0 : Int) (a0_1 : Int) (a1_0 : Int) (a1_1 : Int) (r : Int) (w : World) (h : decimal128_Num_Cmp.f a0_0 a0_1 a1_0 a1_1 = some r) :
  Calls Try.prog 54 #[.agg #[.int .u64 a0_0, .int .i64 a0_1], .agg #[.int .u64 a1_0, .int .i64 a1_1]] w fun e w' => e = .returned (.int .i64 r) ∧ Below w.heap.size w w' := by
 have hu57 := Try.underlying57
 have HB := a0_ (Below.refl w.heap.size w)
 have H : ((decimal128_Num_Greater.f a0_0 a0_1 a1_0 a1_1).bind fun t242 => (if t242 = true then (some 1) else ((decimal128_Num_Less.f a0_0 a0_1 a1_0 a1_1).bind fun t243 => (if t243 = true then (some (-1)) else (some 0))))) = some r := h
 clear h
 replace H := Option.bind_eq_some_iff.mp H
 obtain ⟨t242, A30, H⟩ := H
 replace H : (if t242 = true then (some 1) else ((decimal128_Num_Less.f a0_0 a0_1 a1_0 a1_1).bind fun t243 => (if t243 = true then (some (-1)) else (some 0)))) = some r := H
 have A3 := a0_ A30
 clear A30
 by_cases c4 : t242 = true
 ·
  subst c4
  have H1 : (some 1) = some r := by rw [if_pos rfl] at H; exact H
  clear H
  have H := H1
  clear H1
  obtain rfl := o1_ H
  go_enter Try.func54, Try.ntmps54
  go_wp2_with (first | ((with_reducible refine gate_dst (N := 2) rfl ?_); refine box_event ?hg (N := 2) ?hd (cs := #[.int .u64 a0_0, .int .i64 a0_1]) (t := 57) ?hr ?_; (case hd => rfl); (case hg => rfl); (case hr => first | (go_simp; done) | (go_simp; rfl)); intro gb240 hg w5 hbox hb; have n0_ := a0_ (below_step (by repeat (first | (with_reducible first | exact HB.out | apply b1_ | apply b2_ | apply b3_) | exact HB.out)) hb); have n1_ := a0_ (hbox); have n2_ := a0_ ((by rw [hg]; exact (below_size (by repeat (first | (with_reducible first | exact HB.out | apply b1_ | apply b2_ | apply b3_) | exact HB.out))) : w.heap.size ≤ gb240)); have n3_ := a0_ ((by rw [hg]; exact (below_size (by repeat (first | (with_reducible first | exact HB.out | apply b1_ | apply b2_ | apply b3_) | exact HB.out))) : w.heap.size ≤ gb240)); clear HB; have HB := n0_; have BK240 := n1_; have GW240 := n2_; have GE240 := n3_; clear n0_ n1_ n2_ n3_; clear hb hbox hg) | ((with_reducible refine gate_dst (N := 3) rfl ?_); refine box_event ?hg (N := 3) ?hd (cs := #[.int .u64 a1_0, .int .i64 a1_1]) (t := 57) ?hr ?_; (case hd => rfl); (case hg => rfl); (case hr => first | (go_simp; done) | (go_simp; rfl)); intro gb241 hg w6 hbox hb; have n0_ := a0_ (blk_below (g := gb240) (o := .cells #[.int .u64 a0_0, .int .i64 a0_1] 57 (0, 0)) (by (with_reducible repeat (first | refine k1_ ?_ _ | refine k2_ ?_ | refine k3_ ?_ _)); exact BK240.out) hb); have n1_ := a0_ (below_step (by repeat (first | (with_reducible first | exact HB.out | apply b1_ | apply b2_ | apply b3_ | refine b4_ ?_ GE240.out) | exact HB.out)) hb); have n2_ := a0_ (hbox); have n3_ := a0_ ((by rw [hg]; exact (below_size (by repeat (first | (with_reducible first | exact HB.out | apply b1_ | apply b2_ | apply b3_ | refine b4_ ?_ GE240.out) | exact HB.out))) : w.heap.size ≤ gb241)); have n4_ := a0_ ((by rw [hg]; exact (below_size (by repeat (first | (with_reducible first | exact HB.out | apply b1_ | apply b2_ | apply b3_ | refine b4_ ?_ GE240.out) | exact HB.out))) : w.heap.size ≤ gb241)); have n5_ := a0_ ((by rw [hg]; exact Nat.ne_of_lt (blk_lt (g := gb240) (o := .cells #[.int .u64 a0_0, .int .i64 a0_1] 57 (0, 0)) (by (with_reducible repeat (first | refine k1_ ?_ _ | refine k2_ ?_ | refine k3_ ?_ _)); exact BK240.out)) : gb240 ≠ gb241)); have n6_ := a0_ ((by rw [hg]; exact Nat.ne_of_gt (blk_lt (g := gb240) (o := .cells #[.int .u64 a0_0, .int .i64 a0_1] 57 (0, 0)) (by (with_reducible repeat (first | refine k1_ ?_ _ | refine k2_ ?_ | refine k3_ ?_ _)); exact BK240.out)) : gb241 ≠ gb240)); clear BK240; clear HB; have BK240 := n0_; have HB := n1_; have BK241 := n2_; have GW241 := n3_; have GE241 := n4_; have NB240_241 := n5_; have NB241_240 := n6_; clear n0_ n1_ n2_ n3_ n4_ n5_ n6_; clear hb hbox hg; have hnb7 := NB240_241.out; have hnc7 := NB241_240.out; have hcz8_0 : w6.cell? ⟨gb240, 0, none⟩ = some (.int .u64 a0_0) := (blk_cell BK240.out 0).trans rfl; have hcz8_1 : w6.cell? ⟨gb240, 1, none⟩ = some (.int .i64 a0_1) := (blk_cell BK240.out 1).trans rfl; have hfz8_0 := blk_frozen BK240.out 0; have hfz8_1 := blk_frozen BK240.out 1; have hcz9_0 : w6.cell? ⟨gb241, 0, none⟩ = some (.int .u64 a1_0) := (blk_cell BK241.out 0).trans rfl; have hcz9_1 : w6.cell? ⟨gb241, 1, none⟩ = some (.int .i64 a1_1) := (blk_cell BK241.out 1).trans rfl; have hfz9_0 := blk_frozen BK241.out 0; have hfz9_1 := blk_frozen BK241.out 1) | ((with_reducible refine gate_callee (f := 57) rfl ?_); refine goesL_ (some 8) rfl rfl Try.func57 (by kernel_rfl) rfl #[.agg #[.int .u64 a0_0, .int .i64 a0_1], .agg #[.int .u64 a1_0, .int .i64 a1_1]] rfl (by (try simp only [List.map_toArray, List.map_cons, List.map_nil]); first | done | rfl | (simp only [List.length_drop, List.length_take]; rfl)) ?_; (with_reducible refine (decimal128_Num_Greater.calls a0_0 a0_1 a1_0 a1_1 true _ A3.out).mono ?_); rintro e w10 ⟨rfl, hb⟩; refine ⟨_, rfl, ?_⟩; have n0_ := a0_ (blk_below (g := gb240) (o := .cells #[.int .u64 a0_0, .int .i64 a0_1] 57 (0, 0)) (by (with_reducible repeat (first | refine k1_ ?_ _ | refine k2_ ?_ | refine k3_ ?_ _)); exact BK240.out) hb); have n1_ := a0_ (blk_below (g := gb241) (o := .cells #[.int .u64 a1_0, .int .i64 a1_1] 57 (0, 0)) (by (with_reducible repeat (first | refine k1_ ?_ _ | refine k2_ ?_ | refine k3_ ?_ _)); exact BK241.out) hb); have n2_ := a0_ (below_step (by repeat (first | (with_reducible first | exact HB.out | apply b1_ | apply b2_ | apply b3_ | refine b4_ ?_ GE240.out | refine b4_ ?_ GE241.out) | exact HB.out)) hb); clear BK240; clear BK241; clear HB; have BK240 := n0_; have BK241 := n1_; have HB := n2_; clear n0_ n1_ n2_; (try clear hb); (try clear hb2); (try clear hk); (try clear hi)))
  go_ret
  exact ⟨by first | rfl | (simp [e1_, e2_] <;> rfl) | (simp [*, e1_, e2_] <;> rfl), by repeat (first | (with_reducible first | exact HB.out | apply b1_ | apply b2_ | apply b3_ | refine b4_ ?_ GE240.out | refine b4_ ?_ GE241.out) | exact HB.out)⟩
 ·
  replace c4 := Bool.eq_false_iff.mpr c4
  subst c4
  have H1 : ((decimal128_Num_Less.f a0_0 a0_1 a1_0 a1_1).bind fun t243 => (if t243 = true then (some (-1)) else (some 0))) = some r := by rw [if_neg (show ¬ (false = true) by decide)] at H; exact H
  clear H
  have H := H1
  clear H1
  replace H := Option.bind_eq_some_iff.mp H
  obtain ⟨t243, A110, H⟩ := H
  replace H : (if t243 = true then (some (-1)) else (some 0)) = some r := H
  have A11 := a0_ A110
  clear A110
  by_cases c12 : t243 = true
  ·
   subst c12
   have H1 : (some (-1)) = some r := by rw [if_pos rfl] at H; exact H
   clear H
   have H := H1
   clear H1
   obtain rfl := o1_ H
   go_enter Try.func54, Try.ntmps54
   go_wp2_with (first | ((with_reducible refine gate_dst (N := 2) rfl ?_); refine box_event ?hg (N := 2) ?hd (cs := #[.int .u64 a0_0, .int .i64 a0_1]) (t := 57) ?hr ?_; (case hd => rfl); (case hg => rfl); (case hr => first | (go_simp; done) | (go_simp; rfl)); intro gb240 hg w13 hbox hb; have n0_ := a0_ (below_step (by repeat (first | (with_reducible first | exact HB.out | apply b1_ | apply b2_ | apply b3_) | exact HB.out)) hb); have n1_ := a0_ (hbox); have n2_ := a0_ ((by rw [hg]; exact (below_size (by repeat (first | (with_reducible first | exact HB.out | apply b1_ | apply b2_ | apply b3_) | exact HB.out))) : w.heap.size ≤ gb240)); have n3_ := a0_ ((by rw [hg]; exact (below_size (by repeat (first | (with_reducible first | exact HB.out | apply b1_ | apply b2_ | apply b3_) | exact HB.out))) : w.heap.size ≤ gb240)); clear HB; have HB := n0_; have BK240 := n1_; have GW240 := n2_; have GE240 := n3_; clear n0_ n1_ n2_ n3_; clear hb hbox hg) | ((with_reducible refine gate_dst (N := 3) rfl ?_); refine box_event ?hg (N := 3) ?hd (cs := #[.int .u64 a1_0, .int .i64 a1_1]) (t := 57) ?hr ?_; (case hd => rfl); (case hg => rfl); (case hr => first | (go_simp; done) | (go_simp; rfl)); intro gb241 hg w14 hbox hb; have n0_ := a0_ (blk_below (g := gb240) (o := .cells #[.int .u64 a0_0, .int .i64 a0_1] 57 (0, 0)) (by (with_reducible repeat (first | refine k1_ ?_ _ | refine k2_ ?_ | refine k3_ ?_ _)); exact BK240.out) hb); have n1_ := a0_ (below_step (by repeat (first | (with_reducible first | exact HB.out | apply b1_ | apply b2_ | apply b3_ | refine b4_ ?_ GE240.out) | exact HB.out)) hb); have n2_ := a0_ (hbox); have n3_ := a0_ ((by rw [hg]; exact (below_size (by repeat (first | (with_reducible first | exact HB.out | apply b1_ | apply b2_ | apply b3_ | refine b4_ ?_ GE240.out) | exact HB.out))) : w.heap.size ≤ gb241)); have n4_ := a0_ ((by rw [hg]; exact (below_size (by repeat (first | (with_reducible first | exact HB.out | apply b1_ | apply b2_ | apply b3_ | refine b4_ ?_ GE240.out) | exact HB.out))) : w.heap.size ≤ gb241)); have n5_ := a0_ ((by rw [hg]; exact Nat.ne_of_lt (blk_lt (g := gb240) (o := .cells #[.int .u64 a0_0, .int .i64 a0_1] 57 (0, 0)) (by (with_reducible repeat (first | refine k1_ ?_ _ | refine k2_ ?_ | refine k3_ ?_ _)); exact BK240.out)) : gb240 ≠ gb241)); have n6_ := a0_ ((by rw [hg]; exact Nat.ne_of_gt (blk_lt (g := gb240) (o := .cells #[.int .u64 a0_0, .int .i64 a0_1] 57 (0, 0)) (by (with_reducible repeat (first | refine k1_ ?_ _ | refine k2_ ?_ | refine k3_ ?_ _)); exact BK240.out)) : gb241 ≠ gb240)); clear BK240; clear HB; have BK240 := n0_; have HB := n1_; have BK241 := n2_; have GW241 := n3_; have GE241 := n4_; have NB240_241 := n5_; have NB241_240 := n6_; clear n0_ n1_ n2_ n3_ n4_ n5_ n6_; clear hb hbox hg; have hnb15 := NB240_241.out; have hnc15 := NB241_240.out; have hcz16_0 : w14.cell? ⟨gb240, 0, none⟩ = some (.int .u64 a0_0) := (blk_cell BK240.out 0).trans rfl; have hcz16_1 : w14.cell? ⟨gb240, 1, none⟩ = some (.int .i64 a0_1) := (blk_cell BK240.out 1).trans rfl; have hfz16_0 := blk_frozen BK240.out 0; have hfz16_1 := blk_frozen BK240.out 1; have hcz17_0 : w14.cell? ⟨gb241, 0, none⟩ = some (.int .u64 a1_0) := (blk_cell BK241.out 0).trans rfl; have hcz17_1 : w14.cell? ⟨gb241, 1, none⟩ = some (.int .i64 a1_1) := (blk_cell BK241.out 1).trans rfl; have hfz17_0 := blk_frozen BK241.out 0; have hfz17_1 := blk_frozen BK241.out 1) | ((with_reducible refine gate_callee (f := 57) rfl ?_); refine goesL_ (some 8) rfl rfl Try.func57 (by kernel_rfl) rfl #[.agg #[.int .u64 a0_0, .int .i64 a0_1], .agg #[.int .u64 a1_0, .int .i64 a1_1]] rfl (by (try simp only [List.map_toArray, List.map_cons, List.map_nil]); first | done | rfl | (simp only [List.length_drop, List.length_take]; rfl)) ?_; (with_reducible refine (decimal128_Num_Greater.calls a0_0 a0_1 a1_0 a1_1 false _ A3.out).mono ?_); rintro e w18 ⟨rfl, hb⟩; refine ⟨_, rfl, ?_⟩; have n0_ := a0_ (blk_below (g := gb240) (o := .cells #[.int .u64 a0_0, .int .i64 a0_1] 57 (0, 0)) (by (with_reducible repeat (first | refine k1_ ?_ _ | refine k2_ ?_ | refine k3_ ?_ _)); exact BK240.out) hb); have n1_ := a0_ (blk_below (g := gb241) (o := .cells #[.int .u64 a1_0, .int .i64 a1_1] 57 (0, 0)) (by (with_reducible repeat (first | refine k1_ ?_ _ | refine k2_ ?_ | refine k3_ ?_ _)); exact BK241.out) hb); have n2_ := a0_ (below_step (by repeat (first | (with_reducible first | exact HB.out | apply b1_ | apply b2_ | apply b3_ | refine b4_ ?_ GE240.out | refine b4_ ?_ GE241.out) | exact HB.out)) hb); clear BK240; clear BK241; clear HB; have BK240 := n0_; have BK241 := n1_; have HB := n2_; clear n0_ n1_ n2_; (try clear hb); (try clear hb2); (try clear hk); (try clear hi); have hcz19_0 : w18.cell? ⟨gb240, 0, none⟩ = some (.int .u64 a0_0) := (blk_cell BK240.out 0).trans rfl; have hcz19_1 : w18.cell? ⟨gb240, 1, none⟩ = some (.int .i64 a0_1) := (blk_cell BK240.out 1).trans rfl; have hfz19_0 := blk_frozen BK240.out 0; have hfz19_1 := blk_frozen BK240.out 1; have hcz20_0 : w18.cell? ⟨gb241, 0, none⟩ = some (.int .u64 a1_0) := (blk_cell BK241.out 0).trans rfl; have hcz20_1 : w18.cell? ⟨gb241, 1, none⟩ = some (.int .i64 a1_1) := (blk_cell BK241.out 1).trans rfl; have hfz20_0 := blk_frozen BK241.out 0; have hfz20_1 := blk_frozen BK241.out 1) | ((with_reducible refine gate_callee (f := 55) rfl ?_); refine goesL_ (some 12) rfl rfl Try.func55 (by kernel_rfl) rfl #[.agg #[.int .u64 a0_0, .int .i64 a0_1], .agg #[.int .u64 a1_0, .int .i64 a1_1]] rfl (by (try simp only [List.map_toArray, List.map_cons, List.map_nil]); first | done | rfl | (simp only [List.length_drop, List.length_take]; rfl)) ?_; (with_reducible refine (decimal128_Num_Less.calls a0_0 a0_1 a1_0 a1_1 true _ A11.out).mono ?_); rintro e w21 ⟨rfl, hb⟩; refine ⟨_, rfl, ?_⟩; have n0_ := a0_ (blk_below (g := gb240) (o := .cells #[.int .u64 a0_0, .int .i64 a0_1] 57 (0, 0)) (by (with_reducible repeat (first | refine k1_ ?_ _ | refine k2_ ?_ | refine k3_ ?_ _)); exact BK240.out) hb); have n1_ := a0_ (blk_below (g := gb241) (o := .cells #[.int .u64 a1_0, .int .i64 a1_1] 57 (0, 0)) (by (with_reducible repeat (first | refine k1_ ?_ _ | refine k2_ ?_ | refine k3_ ?_ _)); exact BK241.out) hb); have n2_ := a0_ (below_step (by repeat (first | (with_reducible first | exact HB.out | apply b1_ | apply b2_ | apply b3_ | refine b4_ ?_ GE240.out | refine b4_ ?_ GE241.out) | exact HB.out)) hb); clear BK240; clear BK241; clear HB; have BK240 := n0_; have BK241 := n1_; have HB := n2_; clear n0_ n1_ n2_; (try clear hb); (try clear hb2); (try clear hk); (try clear hi)))
   go_ret
   exact ⟨by first | rfl | (simp [e1_, e2_] <;> rfl) | (simp [*, e1_, e2_] <;> rfl), by repeat (first | (with_reducible first | exact HB.out | apply b1_ | apply b2_ | apply b3_ | refine b4_ ?_ GE240.out | refine b4_ ?_ GE241.out) | exact HB.out)⟩
  ·
   replace c12 := Bool.eq_false_iff.mpr c12
   subst c12
   have H1 : (some 0) = some r := by rw [if_neg (show ¬ (false = true) by decide)] at H; exact H
   clear H
   have H := H1
   clear H1
   obtain rfl := o1_ H
   go_enter Try.func54, Try.ntmps54
   go_wp2_with (first | ((with_reducible refine gate_dst (N := 2) rfl ?_); refine box_event ?hg (N := 2) ?hd (cs := #[.int .u64 a0_0, .int .i64 a0_1]) (t := 57) ?hr ?_; (case hd => rfl); (case hg => rfl); (case hr => first | (go_simp; done) | (go_simp; rfl)); intro gb240 hg w22 hbox hb; have n0_ := a0_ (below_step (by repeat (first | (with_reducible first | exact HB.out | apply b1_ | apply b2_ | apply b3_) | exact HB.out)) hb); have n1_ := a0_ (hbox); have n2_ := a0_ ((by rw [hg]; exact (below_size (by repeat (first | (with_reducible first | exact HB.out | apply b1_ | apply b2_ | apply b3_) | exact HB.out))) : w.heap.size ≤ gb240)); have n3_ := a0_ ((by rw [hg]; exact (below_size (by repeat (first | (with_reducible first | exact HB.out | apply b1_ | apply b2_ | apply b3_) | exact HB.out))) : w.heap.size ≤ gb240)); clear HB; have HB := n0_; have BK240 := n1_; have GW240 := n2_; have GE240 := n3_; clear n0_ n1_ n2_ n3_; clear hb hbox hg) | ((with_reducible refine gate_dst (N := 3) rfl ?_); refine box_event ?hg (N := 3) ?hd (cs := #[.int .u64 a1_0, .int .i64 a1_1]) (t := 57) ?hr ?_; (case hd => rfl); (case hg => rfl); (case hr => first | (go_simp; done) | (go_simp; rfl)); intro gb241 hg w23 hbox hb; have n0_ := a0_ (blk_below (g := gb240) (o := .cells #[.int .u64 a0_0, .int .i64 a0_1] 57 (0, 0)) (by (with_reducible repeat (first | refine k1_ ?_ _ | refine k2_ ?_ | refine k3_ ?_ _)); exact BK240.out) hb); have n1_ := a0_ (below_step (by repeat (first | (with_reducible first | exact HB.out | apply b1_ | apply b2_ | apply b3_ | refine b4_ ?_ GE240.out) | exact HB.out)) hb); have n2_ := a0_ (hbox); have n3_ := a0_ ((by rw [hg]; exact (below_size (by repeat (first | (with_reducible first | exact HB.out | apply b1_ | apply b2_ | apply b3_ | refine b4_ ?_ GE240.out) | exact HB.out))) : w.heap.size ≤ gb241)); have n4_ := a0_ ((by rw [hg]; exact (below_size (by repeat (first | (with_reducible first | exact HB.out | apply b1_ | apply b2_ | apply b3_ | refine b4_ ?_ GE240.out) | exact HB.out))) : w.heap.size ≤ gb241)); have n5_ := a0_ ((by rw [hg]; exact Nat.ne_of_lt (blk_lt (g := gb240) (o := .cells #[.int .u64 a0_0, .int .i64 a0_1] 57 (0, 0)) (by (with_reducible repeat (first | refine k1_ ?_ _ | refine k2_ ?_ | refine k3_ ?_ _)); exact BK240.out)) : gb240 ≠ gb241)); have n6_ := a0_ ((by rw [hg]; exact Nat.ne_of_gt (blk_lt (g := gb240) (o := .cells #[.int .u64 a0_0, .int .i64 a0_1] 57 (0, 0)) (by (with_reducible repeat (first | refine k1_ ?_ _ | refine k2_ ?_ | refine k3_ ?_ _)); exact BK240.out)) : gb241 ≠ gb240)); clear BK240; clear HB; have BK240 := n0_; have HB := n1_; have BK241 := n2_; have GW241 := n3_; have GE241 := n4_; have NB240_241 := n5_; have NB241_240 := n6_; clear n0_ n1_ n2_ n3_ n4_ n5_ n6_; clear hb hbox hg; have hnb24 := NB240_241.out; have hnc24 := NB241_240.out; have hcz25_0 : w23.cell? ⟨gb240, 0, none⟩ = some (.int .u64 a0_0) := (blk_cell BK240.out 0).trans rfl; have hcz25_1 : w23.cell? ⟨gb240, 1, none⟩ = some (.int .i64 a0_1) := (blk_cell BK240.out 1).trans rfl; have hfz25_0 := blk_frozen BK240.out 0; have hfz25_1 := blk_frozen BK240.out 1; have hcz26_0 : w23.cell? ⟨gb241, 0, none⟩ = some (.int .u64 a1_0) := (blk_cell BK241.out 0).trans rfl; have hcz26_1 : w23.cell? ⟨gb241, 1, none⟩ = some (.int .i64 a1_1) := (blk_cell BK241.out 1).trans rfl; have hfz26_0 := blk_frozen BK241.out 0; have hfz26_1 := blk_frozen BK241.out 1) | ((with_reducible refine gate_callee (f := 57) rfl ?_); refine goesL_ (some 8) rfl rfl Try.func57 (by kernel_rfl) rfl #[.agg #[.int .u64 a0_0, .int .i64 a0_1], .agg #[.int .u64 a1_0, .int .i64 a1_1]] rfl (by (try simp only [List.map_toArray, List.map_cons, List.map_nil]); first | done | rfl | (simp only [List.length_drop, List.length_take]; rfl)) ?_; (with_reducible refine (decimal128_Num_Greater.calls a0_0 a0_1 a1_0 a1_1 false _ A3.out).mono ?_); rintro e w27 ⟨rfl, hb⟩; refine ⟨_, rfl, ?_⟩; have n0_ := a0_ (blk_below (g := gb240) (o := .cells #[.int .u64 a0_0, .int .i64 a0_1] 57 (0, 0)) (by (with_reducible repeat (first | refine k1_ ?_ _ | refine k2_ ?_ | refine k3_ ?_ _)); exact BK240.out) hb); have n1_ := a0_ (blk_below (g := gb241) (o := .cells #[.int .u64 a1_0, .int .i64 a1_1] 57 (0, 0)) (by (with_reducible repeat (first | refine k1_ ?_ _ | refine k2_ ?_ | refine k3_ ?_ _)); exact BK241.out) hb); have n2_ := a0_ (below_step (by repeat (first | (with_reducible first | exact HB.out | apply b1_ | apply b2_ | apply b3_ | refine b4_ ?_ GE240.out | refine b4_ ?_ GE241.out) | exact HB.out)) hb); clear BK240; clear BK241; clear HB; have BK240 := n0_; have BK241 := n1_; have HB := n2_; clear n0_ n1_ n2_; (try clear hb); (try clear hb2); (try clear hk); (try clear hi); have hcz28_0 : w27.cell? ⟨gb240, 0, none⟩ = some (.int .u64 a0_0) := (blk_cell BK240.out 0).trans rfl; have hcz28_1 : w27.cell? ⟨gb240, 1, none⟩ = some (.int .i64 a0_1) := (blk_cell BK240.out 1).trans rfl; have hfz28_0 := blk_frozen BK240.out 0; have hfz28_1 := blk_frozen BK240.out 1; have hcz29_0 : w27.cell? ⟨gb241, 0, none⟩ = some (.int .u64 a1_0) := (blk_cell BK241.out 0).trans rfl; have hcz29_1 : w27.cell? ⟨gb241, 1, none⟩ = some (.int .i64 a1_1) := (blk_cell BK241.out 1).trans rfl; have hfz29_0 := blk_frozen BK241.out 0; have hfz29_1 := blk_frozen BK241.out 1) | ((with_reducible refine gate_callee (f := 55) rfl ?_); refine goesL_ (some 12) rfl rfl Try.func55 (by kernel_rfl) rfl #[.agg #[.int .u64 a0_0, .int .i64 a0_1], .agg #[.int .u64 a1_0, .int .i64 a1_1]] rfl (by (try simp only [List.map_toArray, List.map_cons, List.map_nil]); first | done | rfl | (simp only [List.length_drop, List.length_take]; rfl)) ?_; (with_reducible refine (decimal128_Num_Less.calls a0_0 a0_1 a1_0 a1_1 false _ A11.out).mono ?_); rintro e w30 ⟨rfl, hb⟩; refine ⟨_, rfl, ?_⟩; have n0_ := a0_ (blk_below (g := gb240) (o := .cells #[.int .u64 a0_0, .int .i64 a0_1] 57 (0, 0)) (by (with_reducible repeat (first | refine k1_ ?_ _ | refine k2_ ?_ | refine k3_ ?_ _)); exact BK240.out) hb); have n1_ := a0_ (blk_below (g := gb241) (o := .cells #[.int .u64 a1_0, .int .i64 a1_1] 57 (0, 0)) (by (with_reducible repeat (first | refine k1_ ?_ _ | refine k2_ ?_ | refine k3_ ?_ _)); exact BK241.out) hb); have n2_ := a0_ (below_step (by repeat (first | (with_reducible first | exact HB.out | apply b1_ | apply b2_ | apply b3_ | refine b4_ ?_ GE240.out | refine b4_ ?_ GE241.out) | exact HB.out)) hb); clear BK240; clear BK241; clear HB; have BK240 := n0_; have BK241 := n1_; have HB := n2_; clear n0_ n1_ n2_; (try clear hb); (try clear hb2); (try clear hk); (try clear hi)))
   go_ret
   exact ⟨by first | rfl | (simp [e1_, e2_] <;> rfl) | (simp [*, e1_, e2_] <;> rfl), by repeat (first | (with_reducible first | exact HB.out | apply b1_ | apply b2_ | apply b3_ | refine b4_ ?_ GE240.out | refine b4_ ?_ GE241.out) | exact HB.out)⟩

/-! ### decimal128_Num_LessEqual: function 56 -/
def decimal128_Num_LessEqual.f (a0_0 : Int) (a0_1 : Int) (a1_0 : Int) (a1_1 : Int) : Option (Bool) := (decimal128_Num_Greater.f a0_0 a0_1 a1_0 a1_1).bind fun t246 => (some (!t246))
set_option maxHeartbeats 8000000 in
set_option maxRecDepth 100000 in
theorem decimal128_Num_LessEqual.calls (a0_0 : Int) (a0_1 : Int) (a1_0 : Int) (a1_1 : Int) (r : Bool) (w : World) (h : decimal128_Num_LessEqual.f a0_0 a0_1 a1_0 a1_1 = some r) :
  Calls Try.prog 56 #[.agg #[.int .u64 a0_0, .int .i64 a0_1], .agg #[.int .u64 a1_0, .int .i64 a1_1]] w fun e w' => e = .returned (.bool r) ∧ Below w.heap.size w w' := by
 have hu57 := Try.underlying57
 have HB := a0_ (Below.refl w.heap.size w)
 have H : ((decimal128_Num_Greater.f a0_0 a0_1 a1_0 a1_1).bind fun t246 => (some (!t246))) = some r := h
 clear h
 replace H := Option.bind_eq_some_iff.mp H
 obtain ⟨t246, A30, H⟩ := H
 replace H : (some (!t246)) = some r := H
 have A3 := a0_ A30
 clear A30
 obtain rfl := o1_ H
 go_enter Try.func56, Try.ntmps56
 go_wp2_with (first | ((with_reducible refine gate_dst (N := 2) rfl ?_); refine box_event ?hg (N := 2) ?hd (cs := #[.int .u64 a0_0, .int .i64 a0_1]) (t := 57) ?hr ?_; (case hd => rfl); (case hg => rfl); (case hr => first | (go_simp; done) | (go_simp; rfl)); intro gb244 hg w4 hbox hb; have n0_ := a0_ (below_step (by repeat (first | (with_reducible first | exact HB.out | apply b1_ | apply b2_ | apply b3_) | exact HB.out)) hb); have n1_ := a0_ (hbox); have n2_ := a0_ ((by rw [hg]; exact (below_size (by repeat (first | (with_reducible first | exact HB.out | apply b1_ | apply b2_ | apply b3_) | exact HB.out))) : w.heap.size ≤ gb244)); have n3_ := a0_ ((by rw [hg]; exact (below_size (by repeat (first | (with_reducible first | exact HB.out | apply b1_ | apply b2_ | apply b3_) | exact HB.out))) : w.heap.size ≤ gb244)); clear HB; have HB := n0_; have BK244 := n1_; have GW244 := n2_; have GE244 := n3_; clear n0_ n1_ n2_ n3_; clear hb hbox hg) | ((with_reducible refine gate_dst (N := 3) rfl ?_); refine box_event ?hg (N := 3) ?hd (cs := #[.int .u64 a1_0, .int .i64 a1_1]) (t := 57) ?hr ?_; (case hd => rfl); (case hg => rfl); (case hr => first | (go_simp; done) | (go_simp; rfl)); intro gb245 hg w5 hbox hb; have n0_ := a0_ (blk_below (g := gb244) (o := .cells #[.int .u64 a0_0, .int .i64 a0_1] 57 (0, 0)) (by (with_reducible repeat (first | refine k1_ ?_ _ | refine k2_ ?_ | refine k3_ ?_ _)); exact BK244.out) hb); have n1_ := a0_ (below_step (by repeat (first | (with_reducible first | exact HB.out | apply b1_ | apply b2_ | apply b3_ | refine b4_ ?_ GE244.out) | exact HB.out)) hb); have n2_ := a0_ (hbox); have n3_ := a0_ ((by rw [hg]; exact (below_size (by repeat (first | (with_reducible first | exact HB.out | apply b1_ | apply b2_ | apply b3_ | refine b4_ ?_ GE244.out) | exact HB.out))) : w.heap.size ≤ gb245)); have n4_ := a0_ ((by rw [hg]; exact (below_size (by repeat (first | (with_reducible first | exact HB.out | apply b1_ | apply b2_ | apply b3_ | refine b4_ ?_ GE244.out) | exact HB.out))) : w.heap.size ≤ gb245)); have n5_ := a0_ ((by rw [hg]; exact Nat.ne_of_lt (blk_lt (g := gb244) (o := .cells #[.int .u64 a0_0, .int .i64 a0_1] 57 (0, 0)) (by (with_reducible repeat (first | refine k1_ ?_ _ | refine k2_ ?_ | refine k3_ ?_ _)); exact BK244.out)) : gb244 ≠ gb245)); have n6_ := a0_ ((by rw [hg]; exact Nat.ne_of_gt (blk_lt (g := gb244) (o := .cells #[.int .u64 a0_0, .int .i64 a0_1] 57 (0, 0)) (by (with_reducible repeat (first | refine k1_ ?_ _ | refine k2_ ?_ | refine k3_ ?_ _)); exact BK244.out)) : gb245 ≠ gb244)); clear BK244; clear HB; have BK244 := n0_; have HB := n1_; have BK245 := n2_; have GW245 := n3_; have GE245 := n4_; have NB244_245 := n5_; have NB245_244 := n6_; clear n0_ n1_ n2_ n3_ n4_ n5_ n6_; clear hb hbox hg; have hnb6 := NB244_245.out; have hnc6 := NB245_244.out; have hcz7_0 : w5.cell? ⟨gb244, 0, none⟩ = some (.int .u64 a0_0) := (blk_cell BK244.out 0).trans rfl; have hcz7_1 : w5.cell? ⟨gb244, 1, none⟩ = some (.int .i64 a0_1) := (blk_cell BK244.out 1).trans rfl; have hfz7_0 := blk_frozen BK244.out 0; have hfz7_1 := blk_frozen BK244.out 1; have hcz8_0 : w5.cell? ⟨gb245, 0, none⟩ = some (.int .u64 a1_0) := (blk_cell BK245.out 0).trans rfl; have hcz8_1 : w5.cell? ⟨gb245, 1, none⟩ = some (.int .i64 a1_1) := (blk_cell BK245.out 1).trans rfl; have hfz8_0 := blk_frozen BK245.out 0; have hfz8_1 := blk_frozen BK245.out 1) | ((with_reducible refine gate_callee (f := 57) rfl ?_); refine goesL_ (some 7) rfl rfl Try.func57 (by kernel_rfl) rfl #[.agg #[.int .u64 a0_0, .int .i64 a0_1], .agg #[.int .u64 a1_0, .int .i64 a1_1]] rfl (by (try simp only [List.map_toArray, List.map_cons, List.map_nil]); first | done | rfl | (simp only [List.length_drop, List.length_take]; rfl)) ?_; (with_reducible refine (decimal128_Num_Greater.calls a0_0 a0_1 a1_0 a1_1 t246 _ A3.out).mono ?_); rintro e w9 ⟨rfl, hb⟩; refine ⟨_, rfl, ?_⟩; have n0_ := a0_ (blk_below (g := gb244) (o := .cells #[.int .u64 a0_0, .int .i64 a0_1] 57 (0, 0)) (by (with_reducible repeat (first | refine k1_ ?_ _ | refine k2_ ?_ | refine k3_ ?_ _)); exact BK244.out) hb); have n1_ := a0_ (blk_below (g := gb245) (o := .cells #[.int .u64 a1_0, .int .i64 a1_1] 57 (0, 0)) (by (with_reducible repeat (first | refine k1_ ?_ _ | refine k2_ ?_ | refine k3_ ?_ _)); exact BK245.out) hb); have n2_ := a0_ (below_step (by repeat (first | (with_reducible first | exact HB.out | apply b1_ | apply b2_ | apply b3_ | refine b4_ ?_ GE244.out | refine b4_ ?_ GE245.out) | exact HB.out)) hb); clear BK244; clear BK245; clear HB; have BK244 := n0_; have BK245 := n1_; have HB := n2_; clear n0_ n1_ n2_; (try clear hb); (try clear hb2); (try clear hk); (try clear hi)))
 go_ret
 exact ⟨by first | rfl | (simp [e1_, e2_] <;> rfl) | (simp [*, e1_, e2_] <;> rfl), by repeat (first | (with_reducible first | exact HB.out | apply b1_ | apply b2_ | apply b3_ | refine b4_ ?_ GE244.out | refine b4_ ?_ GE245.out) | exact HB.out)⟩

/-! ### decimal128_Num_GreaterEqual: function 58 -/
def decimal128_Num_GreaterEqual.f (a0_0 : Int) (a0_1 : Int) (a1_0 : Int) (a1_1 : Int) : Option (Bool) := (decimal128_Num_Less.f a0_0 a0_1 a1_0 a1_1).bind fun t249 => (some (!t249))
set_option maxHeartbeats 8000000 in
set_option maxRecDepth 100000 in
theorem decimal128_Num_GreaterEqual.calls (a0_0 : Int) (a0_1 : Int) (a1_0 : Int) (a1_1 : Int) (r : Bool) (w : World) (h : decimal128_Num_GreaterEqual.f a0_0 a0_1 a1_0 a1_1 = some r) :
  Calls Try.prog 58 #[.agg #[.int .u64 a0_0, .int .i64 a0_1], .agg #[.int .u64 a1_0, .int .i64 a1_1]] w fun e w' => e = .returned (.bool r) ∧ Below w.heap.size w w' := by
 have hu57 := Try.underlying57
 have HB := a0_ (Below.refl w.heap.size w)
 have H : ((decimal128_Num_Less.f a0_0 a0_1 a1_0 a1_1).bind fun t249 => (some (!t249))) = some r := h
 clear h
 replace H := Option.bind_eq_some_iff.mp H
 obtain ⟨t249, A30, H⟩ := H
 replace H : (some (!t249)) = some r := H
 have A3 := a0_ A30
 clear A30
 obtain rfl := o1_ H
 go_enter Try.func58, Try.ntmps58
 go_wp2_with (first | ((with_reducible refine gate_dst (N := 2) rfl ?_); refine box_event ?hg (N := 2) ?hd (cs := #[.int .u64 a0_0, .int .i64 a0_1]) (t := 57) ?hr ?_; (case hd => rfl); (case hg => rfl); (case hr => first | (go_simp; done) | (go_simp; rfl)); intro gb247 hg w4 hbox hb; have n0_ := a0_ (below_step (by repeat (first | (with_reducible first | exact HB.out | apply b1_ | apply b2_ | apply b3_) | exact HB.out)) hb); have n1_ := a0_ (hbox); have n2_ := a0_ ((by rw [hg]; exact (below_size (by repeat (first | (with_reducible first | exact HB.out | apply b1_ | apply b2_ | apply b3_) | exact HB.out))) : w.heap.size ≤ gb247)); have n3_ := a0_ ((by rw [hg]; exact (below_size (by repeat (first | (with_reducible first | exact HB.out | apply b1_ | apply b2_ | apply b3_) | exact HB.out))) : w.heap.size ≤ gb247)); clear HB; have HB := n0_; have BK247 := n1_; have GW247 := n2_; have GE247 := n3_; clear n0_ n1_ n2_ n3_; clear hb hbox hg) | ((with_reducible refine gate_dst (N := 3) rfl ?_); refine box_event ?hg (N := 3) ?hd (cs := #[.int .u64 a1_0, .int .i64 a1_1]) (t := 57) ?hr ?_; (case hd => rfl); (case hg => rfl); (case hr => first | (go_simp; done) | (go_simp; rfl)); intro gb248 hg w5 hbox hb; have n0_ := a0_ (blk_below (g := gb247) (o := .cells #[.int .u64 a0_0, .int .i64 a0_1] 57 (0, 0)) (by (with_reducible repeat (first | refine k1_ ?_ _ | refine k2_ ?_ | refine k3_ ?_ _)); exact BK247.out) hb); have n1_ := a0_ (below_step (by repeat (first | (with_reducible first | exact HB.out | apply b1_ | apply b2_ | apply b3_ | refine b4_ ?_ GE247.out) | exact HB.out)) hb); have n2_ := a0_ (hbox); have n3_ := a0_ ((by rw [hg]; exact (below_size (by repeat (first | (with_reducible first | exact HB.out | apply b1_ | apply b2_ | apply b3_ | refine b4_ ?_ GE247.out) | exact HB.out))) : w.heap.size ≤ gb248)); have n4_ := a0_ ((by rw [hg]; exact (below_size (by repeat (first | (with_reducible first | exact HB.out | apply b1_ | apply b2_ | apply b3_ | refine b4_ ?_ GE247.out) | exact HB.out))) : w.heap.size ≤ gb248)); have n5_ := a0_ ((by rw [hg]; exact Nat.ne_of_lt (blk_lt (g := gb247) (o := .cells #[.int .u64 a0_0, .int .i64 a0_1] 57 (0, 0)) (by (with_reducible repeat (first | refine k1_ ?_ _ | refine k2_ ?_ | refine k3_ ?_ _)); exact BK247.out)) : gb247 ≠ gb248)); have n6_ := a0_ ((by rw [hg]; exact Nat.ne_of_gt (blk_lt (g := gb247) (o := .cells #[.int .u64 a0_0, .int .i64 a0_1] 57 (0, 0)) (by (with_reducible repeat (first | refine k1_ ?_ _ | refine k2_ ?_ | refine k3_ ?_ _)); exact BK247.out)) : gb248 ≠ gb247)); clear BK247; clear HB; have BK247 := n0_; have HB := n1_; have BK248 := n2_; have GW248 := n3_; have GE248 := n4_; have NB247_248 := n5_; have NB248_247 := n6_; clear n0_ n1_ n2_ n3_ n4_ n5_ n6_; clear hb hbox hg; have hnb6 := NB247_248.out; have hnc6 := NB248_247.out; have hcz7_0 : w5.cell? ⟨gb247, 0, none⟩ = some (.int .u64 a0_0) := (blk_cell BK247.out 0).trans rfl; have hcz7_1 : w5.cell? ⟨gb247, 1, none⟩ = some (.int .i64 a0_1) := (blk_cell BK247.out 1).trans rfl; have hfz7_0 := blk_frozen BK247.out 0; have hfz7_1 := blk_frozen BK247.out 1; have hcz8_0 : w5.cell? ⟨gb248, 0, none⟩ = some (.int .u64 a1_0) := (blk_cell BK248.out 0).trans rfl; have hcz8_1 : w5.cell? ⟨gb248, 1, none⟩ = some (.int .i64 a1_1) := (blk_cell BK248.out 1).trans rfl; have hfz8_0 := blk_frozen BK248.out 0; have hfz8_1 := blk_frozen BK248.out 1) | ((with_reducible refine gate_callee (f := 55) rfl ?_); refine goesL_ (some 7) rfl rfl Try.func55 (by kernel_rfl) rfl #[.agg #[.int .u64 a0_0, .int .i64 a0_1], .agg #[.int .u64 a1_0, .int .i64 a1_1]] rfl (by (try simp only [List.map_toArray, List.map_cons, List.map_nil]); first | done | rfl | (simp only [List.length_drop, List.length_take]; rfl)) ?_; (with_reducible refine (decimal128_Num_Less.calls a0_0 a0_1 a1_0 a1_1 t249 _ A3.out).mono ?_); rintro e w9 ⟨rfl, hb⟩; refine ⟨_, rfl, ?_⟩; have n0_ := a0_ (blk_below (g := gb247) (o := .cells #[.int .u64 a0_0, .int .i64 a0_1] 57 (0, 0)) (by (with_reducible repeat (first | refine k1_ ?_ _ | refine k2_ ?_ | refine k3_ ?_ _)); exact BK247.out) hb); have n1_ := a0_ (blk_below (g := gb248) (o := .cells #[.int .u64 a1_0, .int .i64 a1_1] 57 (0, 0)) (by (with_reducible repeat (first | refine k1_ ?_ _ | refine k2_ ?_ | refine k3_ ?_ _)); exact BK248.out) hb); have n2_ := a0_ (below_step (by repeat (first | (with_reducible first | exact HB.out | apply b1_ | apply b2_ | apply b3_ | refine b4_ ?_ GE247.out | refine b4_ ?_ GE248.out) | exact HB.out)) hb); clear BK247; clear BK248; clear HB; have BK247 := n0_; have BK248 := n1_; have HB := n2_; clear n0_ n1_ n2_; (try clear hb); (try clear hb2); (try clear hk); (try clear hi)))
 go_ret
 exact ⟨by first | rfl | (simp [e1_, e2_] <;> rfl) | (simp [*, e1_, e2_] <;> rfl), by repeat (first | (with_reducible first | exact HB.out | apply b1_ | apply b2_ | apply b3_ | refine b4_ ?_ GE247.out | refine b4_ ?_ GE248.out) | exact HB.out)⟩


end Go.Proofs.Ytiiicmfobljnaaa.V
