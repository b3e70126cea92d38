import Derived.Test.YtiiicmfobljnaaaDoorV3
import Derived.Test.YtiiicmfobljnaaaDoorT1
namespace Go.Proofs.YtiiicmfobljnaaaDoor.V
open Go.RowKit Go.Proofs.YtiiicmfobljnaaaDoorW.PrintWords Go.Proofs.YtiiicmfobljnaaaDoorW.PrintLast Go.Proofs.YtiiicmfobljnaaaDoorW.PrintMore
attribute [local go_sem] max2_int min2_int max_two min_two max_three min_three max_four min_four
set_option linter.unusedVariables false
set_option linter.unusedSimpArgs false

/-! ### laws_FnUnitConvert: function 3 -/
def laws_FnUnitConvert.j0 : Nat → Int → Int → Int → Int → Bool → Bool → Option (Bool)
 | 0, _, _, _, _, _, _ => none
 | k + 1, x0, x1, x2, x7, x8, x31 => if x31 = true then (if x7 = 1000 then (some x8) else (some false)) else ((spec_WideInt.f k x2).bind fun bt324 => (if x1 > x0 then ((spec_Ten.f k (wrap64 (3 * (wrap64 (x1 - x0))))).bind fun bt329 => ((spec_WideMul.f k bt324.1 bt324.2 bt329.1 bt329.2).bind fun bt333 => ((spec_ToWords.f k bt333.1 bt333.2 1).bind fun bt337 => ((impl_UnitConvert.f x0 x1 x2).bind fun bt341 => (if bt337.2 = true then (if bt341.2 = true then (if 0 < (bt337.1.length : Int) then (if bt341.1 = (wrap64 (rd bt337.1 0)) then (if x7 = 1000 then (some x8) else (some false)) else (some false)) else (none)) else (some false)) else (if x7 = 1000 then (some x8) else (some false))))))) else ((spec_Ten.f k (wrap64 (3 * (wrap64 (x0 - x1))))).bind fun bt344 => ((spec_WideDiv.f k bt324.1 bt324.2 bt344.1 bt344.2).bind fun bt348 => ((spec_ToWords.f k bt348.1 bt348.2.1 1).bind fun bt356 => ((impl_UnitConvert.f x0 x1 x2).bind fun bt360 => (if bt356.2 = true then (if bt360.2 = true then (if 0 < (bt356.1.length : Int) then (if bt360.1 = (wrap64 (rd bt356.1 0)) then (if x7 = 1000 then (some x8) else (some false)) else (some false)) else (none)) else (some false)) else (if x7 = 1000 then (some x8) else (some false)))))))))
def laws_FnUnitConvert.f (k : Nat) (a0 : Int) (a1 : Int) (a2 : Int) : Option (Bool) := (impl_UnitConvert.f 0 1 1).bind fun bt322 => (if a0 < 0 then (laws_FnUnitConvert.j0 k a0 a1 a2 bt322.1 bt322.2 true) else (if a0 > 3 then (laws_FnUnitConvert.j0 k a0 a1 a2 bt322.1 bt322.2 true) else (if a1 < 0 then (laws_FnUnitConvert.j0 k a0 a1 a2 bt322.1 bt322.2 true) else (laws_FnUnitConvert.j0 k a0 a1 a2 bt322.1 bt322.2 (decide (a1 > 3))))))
def laws_FnUnitConvert.T6 : Bool × List (List Nat × List Nat) := (true, [([], []), ([], []), ([], []), ([1, 2], [1, 2]), ([3], [3]), ([4], [4]), ([0, 5, 5], [0, 5]), ([6, 6, 0, 1, 2, 3, 4, 5, 6], [6])])
def laws_FnUnitConvert.B6 : List Nat := [0, 0, 0, 6, 14, 30, 63, 127]
theorem laws_FnUnitConvert.tab6 : rtab .any (opsOf Tryd.f3 6) = laws_FnUnitConvert.T6 := by kernel_rfl
theorem laws_FnUnitConvert.bits6 : waitsOk laws_FnUnitConvert.T6.2 laws_FnUnitConvert.B6 = true := by kernel_rfl
def laws_FnUnitConvert.T7 : Bool × List (List Nat × List Nat) := (true, [([], []), ([], []), ([], []), ([1, 2], [1, 2]), ([3], [3]), ([4], [4]), ([0, 5, 5], [0, 5]), ([6], [6]), ([7], [7]), ([7], [7]), ([8, 6, 0, 1, 2, 3, 4, 5, 6, 7, 8], [8])])
def laws_FnUnitConvert.B7 : List Nat := [0, 0, 0, 6, 14, 30, 63, 127, 255, 255, 511]
theorem laws_FnUnitConvert.tab7 : rtab .any (opsOf Tryd.f3 7) = laws_FnUnitConvert.T7 := by kernel_rfl
theorem laws_FnUnitConvert.bits7 : waitsOk laws_FnUnitConvert.T7.2 laws_FnUnitConvert.B7 = true := by kernel_rfl
set_option maxHeartbeats 8000000 in
set_option maxRecDepth 100000 in
theorem laws_FnUnitConvert.calls (k : Nat) (a0 : Int) (a1 : Int) (a2 : Int) (r : Bool) (w : World) (hT : TabAt w) (h : laws_FnUnitConvert.f k a0 a1 a2 = some r) :
  Calls Tryd.prog 3 #[.int .i64 a0, .int .i64 a1, .int .i64 a2] w fun e w' => e = .returned (.bool r) ∧ Below w.heap.size w w' := by
 have hu26 := Tryd.underlying26
 have HB := a0_ (Below.refl w.heap.size w)
 have HTAB := a0_ hT
 clear hT
 have H : ((impl_UnitConvert.f 0 1 1).bind fun bt322 => (if a0 < 0 then (laws_FnUnitConvert.j0 k a0 a1 a2 bt322.1 bt322.2 true) else (if a0 > 3 then (laws_FnUnitConvert.j0 k a0 a1 a2 bt322.1 bt322.2 true) else (if a1 < 0 then (laws_FnUnitConvert.j0 k a0 a1 a2 bt322.1 bt322.2 true) else (laws_FnUnitConvert.j0 k a0 a1 a2 bt322.1 bt322.2 (decide (a1 > 3))))))) = some r := h
 clear h
 replace H := Option.bind_eq_some_iff.mp H
 obtain ⟨⟨t322, t323⟩, A40, H⟩ := H
 replace H : (if a0 < 0 then (laws_FnUnitConvert.j0 k a0 a1 a2 t322 t323 true) else (if a0 > 3 then (laws_FnUnitConvert.j0 k a0 a1 a2 t322 t323 true) else (if a1 < 0 then (laws_FnUnitConvert.j0 k a0 a1 a2 t322 t323 true) else (laws_FnUnitConvert.j0 k a0 a1 a2 t322 t323 (decide (a1 > 3)))))) = some r := H
 have A4 := a0_ A40
 clear A40
 have HC5 := a0_ H
 clear H
 go_enter Tryd.func3, Tryd.ntmps3
 go_upto_region 2 with (first | ((with_reducible refine gate_callee (f := 4) rfl ?_); refine goesL_ (some 15) rfl rfl Tryd.func4 (by kernel_rfl) rfl #[.int .i64 0, .int .i64 1, .int .i64 1] rfl (by (try simp only [List.map_toArray, List.map_cons, List.map_nil]); first | done | rfl | (simp only [List.length_drop, List.length_take]; rfl)) ?_; (with_reducible refine (impl_UnitConvert.calls 0 1 1 t322 t323 _ A4.out (HTAB.out.below (by repeat (first | (with_reducible first | exact HB.out | apply b1_ | apply b2_ | apply b3_) | exact HB.out)))).mono ?_); rintro e w6 ⟨rfl, hb⟩; refine ⟨_, rfl, ?_⟩; have n0_ := a0_ (below_step (by repeat (first | (with_reducible first | exact HB.out | apply b1_ | apply b2_ | apply b3_) | exact HB.out)) hb); clear HB; have HB := n0_; clear n0_; (try clear hb); (try clear hb2); (try clear hk); (try clear hi)))
 (try simp only [Act.put, s1_, s2_, s3_])
 go_cut [31] (fun v31 wc => ∃ (kq : Nat) (x31_4 : Bool), v31 = .bool x31_4 ∧ Aside0 (laws_FnUnitConvert.j0 kq a0 a1 a2 t322 t323 x31_4 = some r) ∧ Aside0 (kq ≤ k) ∧ Aside0 (Below w.heap.size w wc))
 case first =>
  have H := HC5.out
  clear HC5
  by_cases c7 : a0 < 0
  ·
   rw [if_pos c7] at H
   have c7b0 : decide (a0 < 0) = true := d2_ c7
   clear c7
   (first | rw [c7b0] | (simp only [i64_w, i32_w]; rw [c7b0]) | skip)
   have H' := a0_ H
   clear H
   go_wp2
   go_meet
   case rel => exact ⟨_, (true), (by first | rfl | (simp; done) | (simp [*]; done)), H', ⟨by first | omega | exact Nat.le_refl _⟩, ⟨by repeat (first | (with_reducible first | exact HB.out | apply b1_ | apply b2_ | apply b3_) | exact HB.out)⟩⟩
  ·
   rw [if_neg c7] at H
   have c7b0 : decide (a0 < 0) = false := d3_ c7
   clear c7
   (first | rw [c7b0] | (simp only [i64_w, i32_w]; rw [c7b0]) | skip)
   by_cases c8 : a0 > 3
   ·
    rw [if_pos c8] at H
    have c8b0 : decide (3 < a0) = true := d2_ c8
    clear c8
    have H' := a0_ H
    clear H
    go_wp2
    go_meet
    case rel => exact ⟨_, (true), (by first | rfl | (simp; done) | (simp [*]; done)), H', ⟨by first | omega | exact Nat.le_refl _⟩, ⟨by repeat (first | (with_reducible first | exact HB.out | apply b1_ | apply b2_ | apply b3_) | exact HB.out)⟩⟩
   ·
    rw [if_neg c8] at H
    have c8b0 : decide (3 < a0) = false := d3_ c8
    clear c8
    by_cases c9 : a1 < 0
    ·
     rw [if_pos c9] at H
     have c9b0 : decide (a1 < 0) = true := d2_ c9
     clear c9
     have H' := a0_ H
     clear H
     go_wp2
     go_meet
     case rel => exact ⟨_, (true), (by first | rfl | (simp; done) | (simp [*]; done)), H', ⟨by first | omega | exact Nat.le_refl _⟩, ⟨by repeat (first | (with_reducible first | exact HB.out | apply b1_ | apply b2_ | apply b3_) | exact HB.out)⟩⟩
    ·
     rw [if_neg c9] at H
     have c9b0 : decide (a1 < 0) = false := d3_ c9
     clear c9
     have H' := a0_ H
     clear H
     go_wp2
     go_meet
     case rel => exact ⟨_, (decide (a1 > 3)), (by first | rfl | (simp; done) | (simp [*]; done)), H', ⟨by first | omega | exact Nat.le_refl _⟩, ⟨by repeat (first | (with_reducible first | exact HB.out | apply b1_ | apply b2_ | apply b3_) | exact HB.out)⟩⟩
 case rest =>
  clear HC5
  try clear p2
  try clear c3
  try clear c4
  try clear c7
  try clear c7b0
  try clear c8
  try clear c8b0
  try clear c9
  try clear c9b0
  obtain ⟨kq, x31_4, rfl, HA, HJ4, HB⟩ := hcut
  cases kq with
  | zero => exact absurd HA.out (by simp [laws_FnUnitConvert.j0])
  | succ kj4 =>
   have H := HA.out
   clear HA
   simp only [laws_FnUnitConvert.j0] at H
   by_cases c10 : x31_4 = true
   ·
    subst c10
    have H1 : (if t322 = 1000 then (some t323) else (some false)) = some r := by rw [if_pos rfl] at H; exact H
    clear H
    have H := H1
    clear H1
    by_cases c11 : t322 = 1000
    ·
     rw [if_pos c11] at H
     have c11b0 : (t322 == 1000) = true := beq_iff_eq.mpr c11
     have c11b1 : (t322 != 1000) = false := bne_eq_false_iff_eq.mpr c11
     clear c11
     obtain rfl := o1_ H
     go_wp2
     go_ret
     exact ⟨by first | rfl | (simp [e1_, e2_] <;> rfl) | (simp [*, e1_, e2_] <;> rfl), by repeat (first | (with_reducible first | exact HB.out | apply b1_ | apply b2_ | apply b3_) | exact HB.out)⟩
    ·
     rw [if_neg c11] at H
     have c11b0 : (t322 == 1000) = false := beq_eq_false_iff_ne.mpr c11
     have c11b1 : (t322 != 1000) = true := bne_iff_ne.mpr c11
     obtain rfl := o1_ H
     go_wp2
     go_ret
     exact ⟨by first | rfl | (simp [e1_, e2_] <;> rfl) | (simp [*, e1_, e2_] <;> rfl), by repeat (first | (with_reducible first | exact HB.out | apply b1_ | apply b2_ | apply b3_) | exact HB.out)⟩
   ·
    replace c10 := Bool.eq_false_iff.mpr c10
    subst c10
    have H1 : ((spec_WideInt.f kj4 a2).bind fun bt324 => (if a1 > a0 then ((spec_Ten.f kj4 (wrap64 (3 * (wrap64 (a1 - a0))))).bind fun bt329 => ((spec_WideMul.f kj4 bt324.1 bt324.2 bt329.1 bt329.2).bind fun bt333 => ((spec_ToWords.f kj4 bt333.1 bt333.2 1).bind fun bt337 => ((impl_UnitConvert.f a0 a1 a2).bind fun bt341 => (if bt337.2 = true then (if bt341.2 = true then (if 0 < (bt337.1.length : Int) then (if bt341.1 = (wrap64 (rd bt337.1 0)) then (if t322 = 1000 then (some t323) else (some false)) else (some false)) else (none)) else (some false)) else (if t322 = 1000 then (some t323) else (some false))))))) else ((spec_Ten.f kj4 (wrap64 (3 * (wrap64 (a0 - a1))))).bind fun bt344 => ((spec_WideDiv.f kj4 bt324.1 bt324.2 bt344.1 bt344.2).bind fun bt348 => ((spec_ToWords.f kj4 bt348.1 bt348.2.1 1).bind fun bt356 => ((impl_UnitConvert.f a0 a1 a2).bind fun bt360 => (if bt356.2 = true then (if bt360.2 = true then (if 0 < (bt356.1.length : Int) then (if bt360.1 = (wrap64 (rd bt356.1 0)) then (if t322 = 1000 then (some t323) else (some false)) else (some false)) else (none)) else (some false)) else (if t322 = 1000 then (some t323) else (some false))))))))) = some r := by rw [if_neg (show ¬ (false = true) by decide)] at H; exact H
    clear H
    have H := H1
    clear H1
    replace H := Option.bind_eq_some_iff.mp H
    obtain ⟨⟨t324, t325⟩, A120, H⟩ := H
    replace H : (if a1 > a0 then ((spec_Ten.f kj4 (wrap64 (3 * (wrap64 (a1 - a0))))).bind fun bt329 => ((spec_WideMul.f kj4 t324 t325 bt329.1 bt329.2).bind fun bt333 => ((spec_ToWords.f kj4 bt333.1 bt333.2 1).bind fun bt337 => ((impl_UnitConvert.f a0 a1 a2).bind fun bt341 => (if bt337.2 = true then (if bt341.2 = true then (if 0 < (bt337.1.length : Int) then (if bt341.1 = (wrap64 (rd bt337.1 0)) then (if t322 = 1000 then (some t323) else (some false)) else (some false)) else (none)) else (some false)) else (if t322 = 1000 then (some t323) else (some false))))))) else ((spec_Ten.f kj4 (wrap64 (3 * (wrap64 (a0 - a1))))).bind fun bt344 => ((spec_WideDiv.f kj4 t324 t325 bt344.1 bt344.2).bind fun bt348 => ((spec_ToWords.f kj4 bt348.1 bt348.2.1 1).bind fun bt356 => ((impl_UnitConvert.f a0 a1 a2).bind fun bt360 => (if bt356.2 = true then (if bt360.2 = true then (if 0 < (bt356.1.length : Int) then (if bt360.1 = (wrap64 (rd bt356.1 0)) then (if t322 = 1000 then (some t323) else (some false)) else (some false)) else (none)) else (some false)) else (if t322 = 1000 then (some t323) else (some false)))))))) = some r := H
    have A12 := a0_ A120
    clear A120
    by_cases c13 : a1 > a0
    ·
     rw [if_pos c13] at H
     have c13b0 : decide (a0 < a1) = true := d2_ c13
     clear c13
     replace H := Option.bind_eq_some_iff.mp H
     obtain ⟨⟨t329, t330⟩, A140, H⟩ := H
     replace H : ((spec_WideMul.f kj4 t324 t325 t329 t330).bind fun bt333 => ((spec_ToWords.f kj4 bt333.1 bt333.2 1).bind fun bt337 => ((impl_UnitConvert.f a0 a1 a2).bind fun bt341 => (if bt337.2 = true then (if bt341.2 = true then (if 0 < (bt337.1.length : Int) then (if bt341.1 = (wrap64 (rd bt337.1 0)) then (if t322 = 1000 then (some t323) else (some false)) else (some false)) else (none)) else (some false)) else (if t322 = 1000 then (some t323) else (some false)))))) = some r := H
     have A14 := a0_ A140
     clear A140
     replace H := Option.bind_eq_some_iff.mp H
     obtain ⟨⟨t333, t334⟩, A150, H⟩ := H
     replace H : ((spec_ToWords.f kj4 t333 t334 1).bind fun bt337 => ((impl_UnitConvert.f a0 a1 a2).bind fun bt341 => (if bt337.2 = true then (if bt341.2 = true then (if 0 < (bt337.1.length : Int) then (if bt341.1 = (wrap64 (rd bt337.1 0)) then (if t322 = 1000 then (some t323) else (some false)) else (some false)) else (none)) else (some false)) else (if t322 = 1000 then (some t323) else (some false))))) = some r := H
     have A15 := a0_ A150
     clear A150
     replace H := Option.bind_eq_some_iff.mp H
     obtain ⟨⟨t337, t340⟩, A160, H⟩ := H
     replace H : ((impl_UnitConvert.f a0 a1 a2).bind fun bt341 => (if t340 = true then (if bt341.2 = true then (if 0 < (t337.length : Int) then (if bt341.1 = (wrap64 (rd t337 0)) then (if t322 = 1000 then (some t323) else (some false)) else (some false)) else (none)) else (some false)) else (if t322 = 1000 then (some t323) else (some false)))) = some r := H
     have A16 := a0_ A160
     clear A160
     replace H := Option.bind_eq_some_iff.mp H
     obtain ⟨⟨t341, t342⟩, A170, H⟩ := H
     replace H : (if t340 = true then (if t342 = true then (if 0 < (t337.length : Int) then (if t341 = (wrap64 (rd t337 0)) then (if t322 = 1000 then (some t323) else (some false)) else (some false)) else (none)) else (some false)) else (if t322 = 1000 then (some t323) else (some false))) = some r := H
     have A17 := a0_ A170
     clear A170
     by_cases c18 : t340 = true
     ·
      subst c18
      have H1 : (if t342 = true then (if 0 < (t337.length : Int) then (if t341 = (wrap64 (rd t337 0)) then (if t322 = 1000 then (some t323) else (some false)) else (some false)) else (none)) else (some false)) = some r := by rw [if_pos rfl] at H; exact H
      clear H
      have H := H1
      clear H1
      by_cases c19 : t342 = true
      ·
       subst c19
       have H1 : (if 0 < (t337.length : Int) then (if t341 = (wrap64 (rd t337 0)) then (if t322 = 1000 then (some t323) else (some false)) else (some false)) else (none)) = some r := by rw [if_pos rfl] at H; exact H
       clear H
       have H := H1
       clear H1
       by_cases c20 : 0 < (t337.length : Int)
       ·
        rw [if_pos c20] at H
        have c20b0 : decide (0 < (t337.length : Int)) = true := d2_ c20
        have c20b1 : decide (0 < t337.length) = true := d2_ (by omega)
        clear c20
        by_cases c21 : t341 = (wrap64 (rd t337 0))
        ·
         rw [if_pos c21] at H
         have c21b0 : (t341 == (wrap64 (rd t337 0))) = true := beq_iff_eq.mpr c21
         have c21b1 : (t341 != (wrap64 (rd t337 0))) = false := bne_eq_false_iff_eq.mpr c21
         clear c21
         by_cases c22 : t322 = 1000
         ·
          rw [if_pos c22] at H
          have c22b0 : (t322 == 1000) = true := beq_iff_eq.mpr c22
          have c22b1 : (t322 != 1000) = false := bne_eq_false_iff_eq.mpr c22
          clear c22
          obtain rfl := o1_ H
          try go_wp2_with (first | ((with_reducible refine gate_callee (f := 5) rfl ?_); refine goesL_ (some 38) rfl rfl Tryd.func5 (by kernel_rfl) rfl #[.int .i64 a2] rfl (by (try simp only [List.map_toArray, List.map_cons, List.map_nil]); first | done | rfl | (simp only [List.length_drop, List.length_take]; rfl)) ?_; (with_reducible refine (spec_WideInt.calls kj4 a2 t324 t325 _ A12.out).mono ?_); rintro e w23 ⟨v326, rfl, ho0, hb⟩; refine ⟨_, rfl, ?_⟩; have n0_ := a0_ (Kd.V_lower (v4_ (ok' := fun k_ => True) ho0 (fun k_ hk_ => trivial)) (below_size (by repeat (first | (with_reducible first | exact HB.out | apply b1_ | apply b2_ | apply b3_) | exact HB.out)))); have n1_ := a0_ (below_step (by repeat (first | (with_reducible first | exact HB.out | apply b1_ | apply b2_ | apply b3_) | exact HB.out)) hb); clear HB; have HO327 := n0_; have HB := n1_; clear n0_ n1_; (try clear hb); (try clear hb2); (try clear hk); (try clear hi); (try clear ho0)) | ((with_reducible refine gate_dst (N := 9) rfl ?_); refine box_event ?hg (N := 9) ?hd (cs := #[.bool false, .slice none 0 0]) (t := 26) ?hr ?_; (case hd => rfl); (case hg => rfl); (case hr => first | (go_simp; done) | (go_simp; rfl)); intro gb328 hg w24 hbox hb; have n0_ := a0_ (Kd.V_below (Kd.V_elderB (by (with_reducible repeat (first | apply v1_ | apply v2_ | apply v3_)); exact HO327.out) gb328 (Nat.le_of_eq hg.symm)) hb); have n1_ := a0_ (below_step (by repeat (first | (with_reducible first | exact HB.out | apply b1_ | apply b2_ | apply b3_) | exact HB.out)) hb); have n2_ := a0_ (hbox); have n3_ := a0_ ((by rw [hg]; exact (below_size (by repeat (first | (with_reducible first | exact HB.out | apply b1_ | apply b2_ | apply b3_) | exact HB.out))) : w.heap.size ≤ gb328)); have n4_ := a0_ ((by rw [hg]; exact (below_size (by repeat (first | (with_reducible first | exact HB.out | apply b1_ | apply b2_ | apply b3_) | exact HB.out))) : w.heap.size ≤ gb328)); clear HO327; clear HB; have HO327 := n0_; have HB := n1_; have BK328 := n2_; have GW328 := n3_; have GE328 := n4_; clear n0_ n1_ n2_ n3_ n4_; clear hb hbox hg; have hcz25_0 : w24.cell? ⟨gb328, 0, none⟩ = some (.bool false) := (blk_cell BK328.out 0).trans rfl; have hcz25_1 : w24.cell? ⟨gb328, 1, none⟩ = some (.slice none 0 0) := (blk_cell BK328.out 1).trans rfl; have hfz25_0 := blk_frozen BK328.out 0; have hfz25_1 := blk_frozen BK328.out 1; obtain ⟨Ao26, co26, eo26⟩ := Kd.V_slice HO327.out; subst eo26))
          have n0_ : Aside0 (Kd.V (Kd.int .u32) 40 ((w24.setCell ⟨gb328, 0, none⟩ (.bool t324)).setCell ⟨gb328, 1, none⟩ (.slice Ao26 t325.length co26)) w.heap.size (fun k_ => k_ ≠ gb328) (.slice Ao26 t325.length co26) t325) := ⟨by (with_reducible repeat (first | apply v1_ | apply v2_ | apply v3_)); exact v4_ (v5_ (p := ⟨gb328, 1, none⟩) (v5_ (p := ⟨gb328, 0, none⟩) (v4_ HO327.out (fun k_ hk => (⟨hk, hk.2⟩ : _ ∧ k_ ≠ gb328))) (fun _ hk => hk.2) (.bool t324)) (fun _ hk => hk.2) (.slice Ao26 t325.length co26)) (fun _ hk => hk.1.2)⟩
          have n1_ : Aside0 (((w24.setCell ⟨gb328, 0, none⟩ (.bool t324)).setCell ⟨gb328, 1, none⟩ (.slice Ao26 t325.length co26)).heap[gb328]? = some (.cells #[.bool t324, .slice Ao26 t325.length co26] 26 (0, 0))) := ⟨by (with_reducible repeat (first | refine k1_ ?_ _ | refine k2_ ?_ | refine k3_ ?_ _)); refine blk_put (cs := #[.bool t324, .slice none 0 0]) ?_ 1 _ rfl; (with_reducible repeat (first | refine k1_ ?_ _ | refine k2_ ?_ | refine k3_ ?_ _)); refine blk_put (cs := #[.bool false, .slice none 0 0]) ?_ 0 _ rfl; (with_reducible repeat (first | refine k1_ ?_ _ | refine k2_ ?_ | refine k3_ ?_ _)); exact BK328.out⟩
          have n2_ : Aside0 (Below w.heap.size w ((w24.setCell ⟨gb328, 0, none⟩ (.bool t324)).setCell ⟨gb328, 1, none⟩ (.slice Ao26 t325.length co26))) := ⟨by repeat (first | (with_reducible first | exact HB.out | apply b1_ | apply b2_ | apply b3_ | refine b4_ ?_ GE328.out) | exact HB.out)⟩
          (try clear HO327)
          (try clear BK328)
          (try clear HB)
          generalize ((w24.setCell ⟨gb328, 0, none⟩ (.bool t324)).setCell ⟨gb328, 1, none⟩ (.slice Ao26 t325.length co26)) = w27 at n0_ n1_ n2_ ⊢
          have HO327 := n0_
          have BK328 := n1_
          have HB := n2_
          clear n0_ n1_ n2_
          have n0_ := a0_ (v3_ HO327.out)
          have n1_ := a0_ (k2_ BK328.out)
          have n2_ := a0_ (b3_ HB.out)
          clear HO327
          clear BK328
          clear HB
          have HO327 := n0_
          have BK328 := n1_
          have HB := n2_
          clear n0_ n1_ n2_
          refine start_ (n := 8) (S := fun w' => w'.cell? ⟨gb328, 0, none⟩ = some (.bool t324) ∧ w'.cell? ⟨gb328, 1, none⟩ = some (.slice Ao26 t325.length co26)) (ds := [7]) #[false, false, false, false, false, false, false, false] (by kernel_rfl) rfl rfl ⟨(blk_cell BK328.out 0).trans rfl, (blk_cell BK328.out 1).trans rfl⟩ (fun hHeld => ?_); refine with_tabW laws_FnUnitConvert.tab6 laws_FnUnitConvert.bits6 (fun HT_ HW_ => ?_)
          generalize w27.drew = w28 at HO327 BK328 HB hHeld ⊢
          refine pure_ (i := 1) (N := some 43) (v := ?_) (a' := ?_) #[false, true, false, false, false, false, false, false] rfl rfl (any_of HT_.out (by kernel_rfl)) (fun _ _ _ h => h) (Or.inl ⟨by rfl, ?_⟩) ?_ ?_
          rotate_left
          ·
           intro w'
           go_simp
           with_reducible rfl
          rotate_left
          ·
           simp only [Act.put, s1_, s2_, s3_, i64_w, i32_w]
           rfl
          refine pure_ (i := 2) (N := some 44) (v := ?_) (a' := ?_) #[false, true, true, false, false, false, false, false] rfl rfl (any_of HT_.out (by kernel_rfl)) (fun _ _ _ h => h) (Or.inl ⟨by rfl, ?_⟩) ?_ ?_
          rotate_left
          ·
           intro w'
           go_simp
           with_reducible rfl
          rotate_left
          ·
           simp only [Act.put, s1_, s2_, s3_, i64_w, i32_w]
           rfl
          refine pure_ (i := 3) (N := some 45) (v := ?_) (a' := ?_) #[false, true, true, true, false, false, false, false] rfl rfl (any_of HT_.out (by kernel_rfl)) (fun _ _ _ h => h) (Or.inl ⟨by rfl, ?_⟩) ?_ ?_
          rotate_left
          ·
           intro w'
           go_simp
           with_reducible rfl
          rotate_left
          ·
           simp only [Act.put, s1_, s2_, s3_, i64_w, i32_w]
           rfl
          refine pure_ (i := 4) (N := some 46) (v := ?_) (a' := ?_) #[false, true, true, true, true, false, false, false] rfl rfl (any_of HT_.out (by kernel_rfl)) (fun _ _ _ h => h) (Or.inl ⟨by rfl, ?_⟩) ?_ ?_
          rotate_left
          ·
           intro w'
           go_simp
           with_reducible rfl
          rotate_left
          ·
           simp only [Act.put, s1_, s2_, s3_, i64_w, i32_w]
           rfl
          refine take_ (i := 0) (N := some 42) (v := ?_) (a' := ?_) #[true, true, true, true, true, false, false, false] rfl rfl (take_ofW HT_.out HW_.out (by kernel_rfl)) (fun _ _ _ h => h) (Or.inl ⟨by rfl, ?_⟩) hHeld ?_ ?_
          rotate_left
          ·
           rintro w' ⟨s0, s1⟩
           go_simp
           with_reducible rfl
          rotate_left
          ·
           simp only [Act.put, s1_, s2_, s3_, i64_w, i32_w]
           rfl
          refine one_ (i := 5) (N := some 47) #[true, true, true, true, true, true, false, false] rfl rfl (one_of HT_.out (by kernel_rfl)) (by decide) (fun K hK => ?_)
          refine goes_ Tryd.func7 (by kernel_rfl) rfl #[.int .i64 (wrap64 (3 * (wrap64 (a1 - a0))))] (by rfl) rfl rfl (by (try simp only [List.map_toArray, List.map_cons, List.map_nil]); first | done | rfl | (simp only [List.length_drop, List.length_take]; rfl)) ?_
          with_reducible refine (spec_Ten.calls kj4 (wrap64 (3 * (wrap64 (a1 - a0)))) t329 t330 _ A14.out).mono ?_
          rintro e w29 ⟨v331, rfl, ho0, hb⟩
          refine ⟨_, rfl, ?_⟩
          have n0_ := a0_ (Kd.V_below (by (with_reducible repeat (first | apply v1_ | apply v2_ | apply v3_)); exact HO327.out) hb)
          have n1_ := a0_ (Kd.V_lower (v4_ (ok' := fun k_ => k_ ≠ gb328) ho0 (fun k_ hk_ => (Kd.freshB (g := gb328) (o := .cells #[.bool t324, .slice Ao26 t325.length co26] 26 (0, 0)) (by (with_reducible repeat (first | refine k1_ ?_ _ | refine k2_ ?_ | refine k3_ ?_ _)); exact BK328.out) k_ hk_))) (below_size (by repeat (first | (with_reducible first | exact HB.out | apply b1_ | apply b2_ | apply b3_ | refine b4_ ?_ GE328.out) | exact HB.out))))
          have n2_ := a0_ (blk_below (g := gb328) (o := .cells #[.bool t324, .slice Ao26 t325.length co26] 26 (0, 0)) (by (with_reducible repeat (first | refine k1_ ?_ _ | refine k2_ ?_ | refine k3_ ?_ _)); exact BK328.out) hb)
          have n3_ := a0_ (below_step (by repeat (first | (with_reducible first | exact HB.out | apply b1_ | apply b2_ | apply b3_ | refine b4_ ?_ GE328.out) | exact HB.out)) hb)
          clear HO327
          clear BK328
          clear HB
          have HO327 := n0_
          have HO332 := n1_
          have BK328 := n2_
          have HB := n3_
          clear n0_ n1_ n2_ n3_
          (try clear hb)
          (try clear hb2)
          (try clear hk)
          (try clear hi)
          (try clear ho0)
          obtain ⟨Ao30, co30, eo30⟩ := Kd.V_slice HO332.out
          (first | subst eo30 | (injection eo30 with f1_ f2_ f3_; have f4_ := f1_.symm; have f5_ := f3_.symm; clear f1_ f2_ f3_; subst f4_; subst f5_))
          refine hK.out _ _ ⟨(blk_cell BK328.out 0).trans rfl, (blk_cell BK328.out 1).trans rfl⟩ (fun hHeld => ?_)
          clear hK K
          refine norm_ (a' := ?_) ?_ ?_
          rotate_left
          ·
           show Act.put _ (some 47) _ = _
           simp only [Act.put, s1_, s2_, s3_, i64_w, i32_w]
           rfl
          refine one_ (i := 6) (N := some 48) #[true, true, true, true, true, true, true, false] rfl rfl (one_of HT_.out (by kernel_rfl)) (by decide) (fun K hK => ?_)
          refine goes_ Tryd.func6 (by kernel_rfl) rfl #[.agg #[.bool t324, .slice Ao26 t325.length co26], .agg #[.bool t329, .slice Ao30 t330.length co30]] (by rfl) rfl rfl (by (try simp only [List.map_toArray, List.map_cons, List.map_nil]); first | done | rfl | (simp only [List.length_drop, List.length_take]; rfl)) ?_
          with_reducible refine (spec_WideMul.calls kj4 t324 _ _ t325 t329 _ _ t330 t333 t334 _ ?side1 ?side2 ?side3 ?side4 A15.out).mono ?_
          (case side1 => repeat (first | exact (Kd.V_reads' HO327.out).2.2 | (with_reducible refine Kd.C_alloc ?_ _) | (with_reducible refine Kd.C_drewN ?_ _) | (with_reducible refine Kd.C_drew ?_)))
          (case side2 => exact (Kd.V_reads' HO327.out).2.1)
          (case side3 => repeat (first | exact (Kd.V_reads' HO332.out).2.2 | (with_reducible refine Kd.C_alloc ?_ _) | (with_reducible refine Kd.C_drewN ?_ _) | (with_reducible refine Kd.C_drew ?_)))
          (case side4 => exact (Kd.V_reads' HO332.out).2.1)
          rintro e w31 ⟨v335, rfl, ho0, hb⟩
          refine ⟨_, rfl, ?_⟩
          have n0_ := a0_ (Kd.V_below (by (with_reducible repeat (first | apply v1_ | apply v2_ | apply v3_)); exact HO327.out) hb)
          have n1_ := a0_ (Kd.V_below (by (with_reducible repeat (first | apply v1_ | apply v2_ | apply v3_)); exact HO332.out) hb)
          have n2_ := a0_ (Kd.V_lower (v4_ (ok' := fun k_ => k_ ≠ gb328) ho0 (fun k_ hk_ => (Kd.freshB (g := gb328) (o := .cells #[.bool t324, .slice Ao26 t325.length co26] 26 (0, 0)) (by (with_reducible repeat (first | refine k1_ ?_ _ | refine k2_ ?_ | refine k3_ ?_ _)); exact BK328.out) k_ hk_))) (below_size (by repeat (first | (with_reducible first | exact HB.out | apply b1_ | apply b2_ | apply b3_ | refine b4_ ?_ GE328.out) | exact HB.out))))
          have n3_ := a0_ (blk_below (g := gb328) (o := .cells #[.bool t324, .slice Ao26 t325.length co26] 26 (0, 0)) (by (with_reducible repeat (first | refine k1_ ?_ _ | refine k2_ ?_ | refine k3_ ?_ _)); exact BK328.out) hb)
          have n4_ := a0_ (below_step (by repeat (first | (with_reducible first | exact HB.out | apply b1_ | apply b2_ | apply b3_ | refine b4_ ?_ GE328.out) | exact HB.out)) hb)
          clear HO327
          clear HO332
          clear BK328
          clear HB
          have HO327 := n0_
          have HO332 := n1_
          have HO336 := n2_
          have BK328 := n3_
          have HB := n4_
          clear n0_ n1_ n2_ n3_ n4_
          (try clear hb)
          (try clear hb2)
          (try clear hk)
          (try clear hi)
          (try clear ho0)
          obtain ⟨Ao33, co33, eo33⟩ := Kd.V_slice HO336.out
          (first | subst eo33 | (injection eo33 with f1_ f2_ f3_; have f4_ := f1_.symm; have f5_ := f3_.symm; clear f1_ f2_ f3_; subst f4_; subst f5_))
          refine hK.out _ _ ⟨(blk_cell BK328.out 0).trans rfl, (blk_cell BK328.out 1).trans rfl⟩ (fun hHeld => ?_)
          clear hK K
          refine norm_ (a' := ?_) ?_ ?_
          rotate_left
          ·
           show Act.put _ (some 48) _ = _
           simp only [Act.put, s1_, s2_, s3_, i64_w, i32_w]
           rfl
          refine last_ (i := 7) (N := none) #[true, true, true, true, true, true, true, true] rfl rfl (one_of HT_.out (by kernel_rfl)) (by decide) (fun K hK => ?_)
          have hs32 : w31.cell? ⟨gb328, 0, none⟩ = some (.bool t324) := (blk_cell BK328.out 0).trans rfl
          have hfs32 := blk_frozen BK328.out 0
          have hs34 : w31.cell? ⟨gb328, 1, none⟩ = some (.slice Ao26 t325.length co26) := (blk_cell BK328.out 1).trans rfl
          have hfs34 := blk_frozen BK328.out 1
          refine skip_ (w1 := ?_) (by rfl) rfl ?_ ?_
          rotate_left
          ·
           go_simp
           rfl
          refine hK.out _ _ ?_
          clear hK K
          refine done_ (done_of HT_.out (by kernel_rfl)) ?_
          have n0_ : Aside0 (Kd.V (Kd.int .u32) 40 ((w31.setCell ⟨gb328, 0, none⟩ (.bool t333)).setCell ⟨gb328, 1, none⟩ (.slice Ao33 t334.length co33)) w.heap.size (fun k_ => k_ ≠ gb328) (.slice Ao26 t325.length co26) t325) := ⟨by (with_reducible repeat (first | apply v1_ | apply v2_ | apply v3_)); exact v4_ (v5_ (p := ⟨gb328, 1, none⟩) (v5_ (p := ⟨gb328, 0, none⟩) (v4_ HO327.out (fun k_ hk => (⟨hk, hk⟩ : _ ∧ k_ ≠ gb328))) (fun _ hk => hk.2) (.bool t333)) (fun _ hk => hk.2) (.slice Ao33 t334.length co33)) (fun _ hk => hk.1)⟩
          have n1_ : Aside0 (Kd.V (Kd.int .u32) 40 ((w31.setCell ⟨gb328, 0, none⟩ (.bool t333)).setCell ⟨gb328, 1, none⟩ (.slice Ao33 t334.length co33)) w.heap.size (fun k_ => k_ ≠ gb328) (.slice Ao30 t330.length co30) t330) := ⟨by (with_reducible repeat (first | apply v1_ | apply v2_ | apply v3_)); exact v4_ (v5_ (p := ⟨gb328, 1, none⟩) (v5_ (p := ⟨gb328, 0, none⟩) (v4_ HO332.out (fun k_ hk => (⟨hk, hk⟩ : _ ∧ k_ ≠ gb328))) (fun _ hk => hk.2) (.bool t333)) (fun _ hk => hk.2) (.slice Ao33 t334.length co33)) (fun _ hk => hk.1)⟩
          have n2_ : Aside0 (Kd.V (Kd.int .u32) 40 ((w31.setCell ⟨gb328, 0, none⟩ (.bool t333)).setCell ⟨gb328, 1, none⟩ (.slice Ao33 t334.length co33)) w.heap.size (fun k_ => k_ ≠ gb328) (.slice Ao33 t334.length co33) t334) := ⟨by (with_reducible repeat (first | apply v1_ | apply v2_ | apply v3_)); exact v4_ (v5_ (p := ⟨gb328, 1, none⟩) (v5_ (p := ⟨gb328, 0, none⟩) (v4_ HO336.out (fun k_ hk => (⟨hk, hk⟩ : _ ∧ k_ ≠ gb328))) (fun _ hk => hk.2) (.bool t333)) (fun _ hk => hk.2) (.slice Ao33 t334.length co33)) (fun _ hk => hk.1)⟩
          have n3_ : Aside0 (((w31.setCell ⟨gb328, 0, none⟩ (.bool t333)).setCell ⟨gb328, 1, none⟩ (.slice Ao33 t334.length co33)).heap[gb328]? = some (.cells #[.bool t333, .slice Ao33 t334.length co33] 26 (0, 0))) := ⟨by (with_reducible repeat (first | refine k1_ ?_ _ | refine k2_ ?_ | refine k3_ ?_ _)); refine blk_put (cs := #[.bool t333, .slice Ao26 t325.length co26]) ?_ 1 _ rfl; (with_reducible repeat (first | refine k1_ ?_ _ | refine k2_ ?_ | refine k3_ ?_ _)); refine blk_put (cs := #[.bool t324, .slice Ao26 t325.length co26]) ?_ 0 _ rfl; (with_reducible repeat (first | refine k1_ ?_ _ | refine k2_ ?_ | refine k3_ ?_ _)); exact BK328.out⟩
          have n4_ : Aside0 (Below w.heap.size w ((w31.setCell ⟨gb328, 0, none⟩ (.bool t333)).setCell ⟨gb328, 1, none⟩ (.slice Ao33 t334.length co33))) := ⟨by repeat (first | (with_reducible first | exact HB.out | apply b1_ | apply b2_ | apply b3_ | refine b4_ ?_ GE328.out) | exact HB.out)⟩
          (try clear HO327)
          (try clear HO332)
          (try clear HO336)
          (try clear BK328)
          (try clear HB)
          generalize ((w31.setCell ⟨gb328, 0, none⟩ (.bool t333)).setCell ⟨gb328, 1, none⟩ (.slice Ao33 t334.length co33)) = w35 at n0_ n1_ n2_ n3_ n4_ ⊢
          have HO327 := n0_
          have HO332 := n1_
          have HO336 := n2_
          have BK328 := n3_
          have HB := n4_
          clear n0_ n1_ n2_ n3_ n4_
          have hcz36_0 : w35.cell? ⟨gb328, 0, none⟩ = some (.bool t333) := (blk_cell BK328.out 0).trans rfl
          have hcz36_1 : w35.cell? ⟨gb328, 1, none⟩ = some (.slice Ao33 t334.length co33) := (blk_cell BK328.out 1).trans rfl
          have hfz36_0 := blk_frozen BK328.out 0
          have hfz36_1 := blk_frozen BK328.out 1
          try go_wp2_with (first | ((with_reducible refine gate_callee (f := 9) rfl ?_); refine goesL_ (some 61) rfl rfl Tryd.func9 (by kernel_rfl) rfl #[.agg #[.bool t333, .slice Ao33 t334.length co33], .int .i64 1] rfl (by (try simp only [List.map_toArray, List.map_cons, List.map_nil]); first | done | rfl | (simp only [List.length_drop, List.length_take]; rfl)) ?_; (with_reducible refine (spec_ToWords.calls kj4 t333 (fun k_ => k_ ≠ gb328) _ _ t334 1 t337 true _ ?side1 A16.out).mono ?_); (case side1 => exact HO336.out); rintro e w37 ⟨v338, rfl, ho0, hb⟩; refine ⟨_, rfl, ?_⟩; have n0_ := a0_ (Kd.V_elder' (by (with_reducible repeat (first | apply v1_ | apply v2_ | apply v3_)); exact HO327.out) (Kd.R_base ho0) hb); have n1_ := a0_ (Kd.V_elder' (by (with_reducible repeat (first | apply v1_ | apply v2_ | apply v3_)); exact HO332.out) (Kd.R_base ho0) hb); have n2_ := a0_ (Kd.V_elder' (by (with_reducible repeat (first | apply v1_ | apply v2_ | apply v3_)); exact HO336.out) (Kd.R_base ho0) hb); have n3_ := a0_ (Kd.R_lower (Kd.R_mono (ok' := fun k_ => True) ho0 (fun _ hk_ => trivial)) (below_size (by repeat (first | (with_reducible first | exact HB.out | apply b1_ | apply b2_ | apply b3_ | refine b4_ ?_ GE328.out) | exact HB.out)))); have n4_ := a0_ (blk_below (g := gb328) (o := .cells #[.bool t333, .slice Ao33 t334.length co33] 26 (0, 0)) (by (with_reducible repeat (first | refine k1_ ?_ _ | refine k2_ ?_ | refine k3_ ?_ _)); exact BK328.out) hb); have n5_ := a0_ (below_step (by repeat (first | (with_reducible first | exact HB.out | apply b1_ | apply b2_ | apply b3_ | refine b4_ ?_ GE328.out) | exact HB.out)) hb); clear HO327; clear HO332; clear HO336; clear BK328; clear HB; have HO327 := n0_; have HO332 := n1_; have HO336 := n2_; have HO339 := n3_; have BK328 := n4_; have HB := n5_; clear n0_ n1_ n2_ n3_ n4_ n5_; (try clear hb); (try clear hb2); (try clear hk); (try clear hi); (try clear ho0)) | ((with_reducible refine gate_callee (f := 4) rfl ?_); refine goesL_ (some 68) rfl rfl Tryd.func4 (by kernel_rfl) rfl #[.int .i64 a0, .int .i64 a1, .int .i64 a2] rfl (by (try simp only [List.map_toArray, List.map_cons, List.map_nil]); first | done | rfl | (simp only [List.length_drop, List.length_take]; rfl)) ?_; (with_reducible refine (impl_UnitConvert.calls a0 a1 a2 t341 true _ A17.out (HTAB.out.below (by repeat (first | (with_reducible first | exact HB.out | apply b1_ | apply b2_ | apply b3_ | refine b4_ ?_ GE328.out) | exact HB.out)))).mono ?_); rintro e w38 ⟨rfl, hb⟩; refine ⟨_, rfl, ?_⟩; have n0_ := a0_ (Kd.V_below (by (with_reducible repeat (first | apply v1_ | apply v2_ | apply v3_)); exact HO327.out) hb); have n1_ := a0_ (Kd.V_below (by (with_reducible repeat (first | apply v1_ | apply v2_ | apply v3_)); exact HO332.out) hb); have n2_ := a0_ (Kd.V_below (by (with_reducible repeat (first | apply v1_ | apply v2_ | apply v3_)); exact HO336.out) hb); have n3_ := a0_ (Kd.R_below (by (with_reducible repeat (first | apply r1_ | apply r2_ | apply r3_)); exact HO339.out) hb); have n4_ := a0_ (blk_below (g := gb328) (o := .cells #[.bool t333, .slice Ao33 t334.length co33] 26 (0, 0)) (by (with_reducible repeat (first | refine k1_ ?_ _ | refine k2_ ?_ | refine k3_ ?_ _)); exact BK328.out) hb); have n5_ := a0_ (below_step (by repeat (first | (with_reducible first | exact HB.out | apply b1_ | apply b2_ | apply b3_ | refine b4_ ?_ GE328.out) | exact HB.out)) hb); clear HO327; clear HO332; clear HO336; clear HO339; clear BK328; clear HB; have HO327 := n0_; have HO332 := n1_; have HO336 := n2_; have HO339 := n3_; have BK328 := n4_; have HB := n5_; clear n0_ n1_ n2_ n3_ n4_ n5_; (try clear hb); (try clear hb2); (try clear hk); (try clear hi); obtain ⟨Ao39, co39, eo39⟩ := Kd.R_slice HO339.out; subst eo39; have p343 : 0 ≤ (0 : Int) := (by omega); have q343 : 0 < (t337.length : Int) := d1_ (by first | (with_reducible assumption) | assumption); obtain ⟨ad343, e343, hx343_0⟩ := Kd.at_int (Kd.R_reads' HO339.out).2.2 0 p343 q343; cases e343; have qi343 : (0 < t337.length) = True := eq_true (by omega); (try rw [show ((0 : Int)).toNat = 0 from rfl] at hx343_0); (try rw [Addr.add_zero'] at hx343_0); replace p343 := eq_true p343; replace q343 := eq_true q343))
          go_ret
          exact ⟨by first | rfl | (simp [e1_, e2_] <;> rfl) | (simp [*, e1_, e2_] <;> rfl), by repeat (first | (with_reducible first | exact HB.out | apply b1_ | apply b2_ | apply b3_ | refine b4_ ?_ GE328.out) | exact HB.out)⟩
         ·
          rw [if_neg c22] at H
          have c22b0 : (t322 == 1000) = false := beq_eq_false_iff_ne.mpr c22
          have c22b1 : (t322 != 1000) = true := bne_iff_ne.mpr c22
          obtain rfl := o1_ H
          try go_wp2_with (first | ((with_reducible refine gate_callee (f := 5) rfl ?_); refine goesL_ (some 38) rfl rfl Tryd.func5 (by kernel_rfl) rfl #[.int .i64 a2] rfl (by (try simp only [List.map_toArray, List.map_cons, List.map_nil]); first | done | rfl | (simp only [List.length_drop, List.length_take]; rfl)) ?_; (with_reducible refine (spec_WideInt.calls kj4 a2 t324 t325 _ A12.out).mono ?_); rintro e w40 ⟨v326, rfl, ho0, hb⟩; refine ⟨_, rfl, ?_⟩; have n0_ := a0_ (Kd.V_lower (v4_ (ok' := fun k_ => True) ho0 (fun k_ hk_ => trivial)) (below_size (by repeat (first | (with_reducible first | exact HB.out | apply b1_ | apply b2_ | apply b3_) | exact HB.out)))); have n1_ := a0_ (below_step (by repeat (first | (with_reducible first | exact HB.out | apply b1_ | apply b2_ | apply b3_) | exact HB.out)) hb); clear HB; have HO327 := n0_; have HB := n1_; clear n0_ n1_; (try clear hb); (try clear hb2); (try clear hk); (try clear hi); (try clear ho0)) | ((with_reducible refine gate_dst (N := 9) rfl ?_); refine box_event ?hg (N := 9) ?hd (cs := #[.bool false, .slice none 0 0]) (t := 26) ?hr ?_; (case hd => rfl); (case hg => rfl); (case hr => first | (go_simp; done) | (go_simp; rfl)); intro gb328 hg w41 hbox hb; have n0_ := a0_ (Kd.V_below (Kd.V_elderB (by (with_reducible repeat (first | apply v1_ | apply v2_ | apply v3_)); exact HO327.out) gb328 (Nat.le_of_eq hg.symm)) hb); have n1_ := a0_ (below_step (by repeat (first | (with_reducible first | exact HB.out | apply b1_ | apply b2_ | apply b3_) | exact HB.out)) hb); have n2_ := a0_ (hbox); have n3_ := a0_ ((by rw [hg]; exact (below_size (by repeat (first | (with_reducible first | exact HB.out | apply b1_ | apply b2_ | apply b3_) | exact HB.out))) : w.heap.size ≤ gb328)); have n4_ := a0_ ((by rw [hg]; exact (below_size (by repeat (first | (with_reducible first | exact HB.out | apply b1_ | apply b2_ | apply b3_) | exact HB.out))) : w.heap.size ≤ gb328)); clear HO327; clear HB; have HO327 := n0_; have HB := n1_; have BK328 := n2_; have GW328 := n3_; have GE328 := n4_; clear n0_ n1_ n2_ n3_ n4_; clear hb hbox hg; have hcz42_0 : w41.cell? ⟨gb328, 0, none⟩ = some (.bool false) := (blk_cell BK328.out 0).trans rfl; have hcz42_1 : w41.cell? ⟨gb328, 1, none⟩ = some (.slice none 0 0) := (blk_cell BK328.out 1).trans rfl; have hfz42_0 := blk_frozen BK328.out 0; have hfz42_1 := blk_frozen BK328.out 1; obtain ⟨Ao43, co43, eo43⟩ := Kd.V_slice HO327.out; subst eo43))
          have n0_ : Aside0 (Kd.V (Kd.int .u32) 40 ((w41.setCell ⟨gb328, 0, none⟩ (.bool t324)).setCell ⟨gb328, 1, none⟩ (.slice Ao43 t325.length co43)) w.heap.size (fun k_ => k_ ≠ gb328) (.slice Ao43 t325.length co43) t325) := ⟨by (with_reducible repeat (first | apply v1_ | apply v2_ | apply v3_)); exact v4_ (v5_ (p := ⟨gb328, 1, none⟩) (v5_ (p := ⟨gb328, 0, none⟩) (v4_ HO327.out (fun k_ hk => (⟨hk, hk.2⟩ : _ ∧ k_ ≠ gb328))) (fun _ hk => hk.2) (.bool t324)) (fun _ hk => hk.2) (.slice Ao43 t325.length co43)) (fun _ hk => hk.1.2)⟩
          have n1_ : Aside0 (((w41.setCell ⟨gb328, 0, none⟩ (.bool t324)).setCell ⟨gb328, 1, none⟩ (.slice Ao43 t325.length co43)).heap[gb328]? = some (.cells #[.bool t324, .slice Ao43 t325.length co43] 26 (0, 0))) := ⟨by (with_reducible repeat (first | refine k1_ ?_ _ | refine k2_ ?_ | refine k3_ ?_ _)); refine blk_put (cs := #[.bool t324, .slice none 0 0]) ?_ 1 _ rfl; (with_reducible repeat (first | refine k1_ ?_ _ | refine k2_ ?_ | refine k3_ ?_ _)); refine blk_put (cs := #[.bool false, .slice none 0 0]) ?_ 0 _ rfl; (with_reducible repeat (first | refine k1_ ?_ _ | refine k2_ ?_ | refine k3_ ?_ _)); exact BK328.out⟩
          have n2_ : Aside0 (Below w.heap.size w ((w41.setCell ⟨gb328, 0, none⟩ (.bool t324)).setCell ⟨gb328, 1, none⟩ (.slice Ao43 t325.length co43))) := ⟨by repeat (first | (with_reducible first | exact HB.out | apply b1_ | apply b2_ | apply b3_ | refine b4_ ?_ GE328.out) | exact HB.out)⟩
          (try clear HO327)
          (try clear BK328)
          (try clear HB)
          generalize ((w41.setCell ⟨gb328, 0, none⟩ (.bool t324)).setCell ⟨gb328, 1, none⟩ (.slice Ao43 t325.length co43)) = w44 at n0_ n1_ n2_ ⊢
          have HO327 := n0_
          have BK328 := n1_
          have HB := n2_
          clear n0_ n1_ n2_
          have n0_ := a0_ (v3_ HO327.out)
          have n1_ := a0_ (k2_ BK328.out)
          have n2_ := a0_ (b3_ HB.out)
          clear HO327
          clear BK328
          clear HB
          have HO327 := n0_
          have BK328 := n1_
          have HB := n2_
          clear n0_ n1_ n2_
          refine start_ (n := 8) (S := fun w' => w'.cell? ⟨gb328, 0, none⟩ = some (.bool t324) ∧ w'.cell? ⟨gb328, 1, none⟩ = some (.slice Ao43 t325.length co43)) (ds := [7]) #[false, false, false, false, false, false, false, false] (by kernel_rfl) rfl rfl ⟨(blk_cell BK328.out 0).trans rfl, (blk_cell BK328.out 1).trans rfl⟩ (fun hHeld => ?_); refine with_tabW laws_FnUnitConvert.tab6 laws_FnUnitConvert.bits6 (fun HT_ HW_ => ?_)
          generalize w44.drew = w45 at HO327 BK328 HB hHeld ⊢
          refine pure_ (i := 1) (N := some 43) (v := ?_) (a' := ?_) #[false, true, false, false, false, false, false, false] rfl rfl (any_of HT_.out (by kernel_rfl)) (fun _ _ _ h => h) (Or.inl ⟨by rfl, ?_⟩) ?_ ?_
          rotate_left
          ·
           intro w'
           go_simp
           with_reducible rfl
          rotate_left
          ·
           simp only [Act.put, s1_, s2_, s3_, i64_w, i32_w]
           rfl
          refine pure_ (i := 2) (N := some 44) (v := ?_) (a' := ?_) #[false, true, true, false, false, false, false, false] rfl rfl (any_of HT_.out (by kernel_rfl)) (fun _ _ _ h => h) (Or.inl ⟨by rfl, ?_⟩) ?_ ?_
          rotate_left
          ·
           intro w'
           go_simp
           with_reducible rfl
          rotate_left
          ·
           simp only [Act.put, s1_, s2_, s3_, i64_w, i32_w]
           rfl
          refine pure_ (i := 3) (N := some 45) (v := ?_) (a' := ?_) #[false, true, true, true, false, false, false, false] rfl rfl (any_of HT_.out (by kernel_rfl)) (fun _ _ _ h => h) (Or.inl ⟨by rfl, ?_⟩) ?_ ?_
          rotate_left
          ·
           intro w'
           go_simp
           with_reducible rfl
          rotate_left
          ·
           simp only [Act.put, s1_, s2_, s3_, i64_w, i32_w]
           rfl
          refine pure_ (i := 4) (N := some 46) (v := ?_) (a' := ?_) #[false, true, true, true, true, false, false, false] rfl rfl (any_of HT_.out (by kernel_rfl)) (fun _ _ _ h => h) (Or.inl ⟨by rfl, ?_⟩) ?_ ?_
          rotate_left
          ·
           intro w'
           go_simp
           with_reducible rfl
          rotate_left
          ·
           simp only [Act.put, s1_, s2_, s3_, i64_w, i32_w]
           rfl
          refine take_ (i := 0) (N := some 42) (v := ?_) (a' := ?_) #[true, true, true, true, true, false, false, false] rfl rfl (take_ofW HT_.out HW_.out (by kernel_rfl)) (fun _ _ _ h => h) (Or.inl ⟨by rfl, ?_⟩) hHeld ?_ ?_
          rotate_left
          ·
           rintro w' ⟨s0, s1⟩
           go_simp
           with_reducible rfl
          rotate_left
          ·
           simp only [Act.put, s1_, s2_, s3_, i64_w, i32_w]
           rfl
          refine one_ (i := 5) (N := some 47) #[true, true, true, true, true, true, false, false] rfl rfl (one_of HT_.out (by kernel_rfl)) (by decide) (fun K hK => ?_)
          refine goes_ Tryd.func7 (by kernel_rfl) rfl #[.int .i64 (wrap64 (3 * (wrap64 (a1 - a0))))] (by rfl) rfl rfl (by (try simp only [List.map_toArray, List.map_cons, List.map_nil]); first | done | rfl | (simp only [List.length_drop, List.length_take]; rfl)) ?_
          with_reducible refine (spec_Ten.calls kj4 (wrap64 (3 * (wrap64 (a1 - a0)))) t329 t330 _ A14.out).mono ?_
          rintro e w46 ⟨v331, rfl, ho0, hb⟩
          refine ⟨_, rfl, ?_⟩
          have n0_ := a0_ (Kd.V_below (by (with_reducible repeat (first | apply v1_ | apply v2_ | apply v3_)); exact HO327.out) hb)
          have n1_ := a0_ (Kd.V_lower (v4_ (ok' := fun k_ => k_ ≠ gb328) ho0 (fun k_ hk_ => (Kd.freshB (g := gb328) (o := .cells #[.bool t324, .slice Ao43 t325.length co43] 26 (0, 0)) (by (with_reducible repeat (first | refine k1_ ?_ _ | refine k2_ ?_ | refine k3_ ?_ _)); exact BK328.out) k_ hk_))) (below_size (by repeat (first | (with_reducible first | exact HB.out | apply b1_ | apply b2_ | apply b3_ | refine b4_ ?_ GE328.out) | exact HB.out))))
          have n2_ := a0_ (blk_below (g := gb328) (o := .cells #[.bool t324, .slice Ao43 t325.length co43] 26 (0, 0)) (by (with_reducible repeat (first | refine k1_ ?_ _ | refine k2_ ?_ | refine k3_ ?_ _)); exact BK328.out) hb)
          have n3_ := a0_ (below_step (by repeat (first | (with_reducible first | exact HB.out | apply b1_ | apply b2_ | apply b3_ | refine b4_ ?_ GE328.out) | exact HB.out)) hb)
          clear HO327
          clear BK328
          clear HB
          have HO327 := n0_
          have HO332 := n1_
          have BK328 := n2_
          have HB := n3_
          clear n0_ n1_ n2_ n3_
          (try clear hb)
          (try clear hb2)
          (try clear hk)
          (try clear hi)
          (try clear ho0)
          obtain ⟨Ao47, co47, eo47⟩ := Kd.V_slice HO332.out
          (first | subst eo47 | (injection eo47 with f1_ f2_ f3_; have f4_ := f1_.symm; have f5_ := f3_.symm; clear f1_ f2_ f3_; subst f4_; subst f5_))
          refine hK.out _ _ ⟨(blk_cell BK328.out 0).trans rfl, (blk_cell BK328.out 1).trans rfl⟩ (fun hHeld => ?_)
          clear hK K
          refine norm_ (a' := ?_) ?_ ?_
          rotate_left
          ·
           show Act.put _ (some 47) _ = _
           simp only [Act.put, s1_, s2_, s3_, i64_w, i32_w]
           rfl
          refine one_ (i := 6) (N := some 48) #[true, true, true, true, true, true, true, false] rfl rfl (one_of HT_.out (by kernel_rfl)) (by decide) (fun K hK => ?_)
          refine goes_ Tryd.func6 (by kernel_rfl) rfl #[.agg #[.bool t324, .slice Ao43 t325.length co43], .agg #[.bool t329, .slice Ao47 t330.length co47]] (by rfl) rfl rfl (by (try simp only [List.map_toArray, List.map_cons, List.map_nil]); first | done | rfl | (simp only [List.length_drop, List.length_take]; rfl)) ?_
          with_reducible refine (spec_WideMul.calls kj4 t324 _ _ t325 t329 _ _ t330 t333 t334 _ ?side1 ?side2 ?side3 ?side4 A15.out).mono ?_
          (case side1 => repeat (first | exact (Kd.V_reads' HO327.out).2.2 | (with_reducible refine Kd.C_alloc ?_ _) | (with_reducible refine Kd.C_drewN ?_ _) | (with_reducible refine Kd.C_drew ?_)))
          (case side2 => exact (Kd.V_reads' HO327.out).2.1)
          (case side3 => repeat (first | exact (Kd.V_reads' HO332.out).2.2 | (with_reducible refine Kd.C_alloc ?_ _) | (with_reducible refine Kd.C_drewN ?_ _) | (with_reducible refine Kd.C_drew ?_)))
          (case side4 => exact (Kd.V_reads' HO332.out).2.1)
          rintro e w48 ⟨v335, rfl, ho0, hb⟩
          refine ⟨_, rfl, ?_⟩
          have n0_ := a0_ (Kd.V_below (by (with_reducible repeat (first | apply v1_ | apply v2_ | apply v3_)); exact HO327.out) hb)
          have n1_ := a0_ (Kd.V_below (by (with_reducible repeat (first | apply v1_ | apply v2_ | apply v3_)); exact HO332.out) hb)
          have n2_ := a0_ (Kd.V_lower (v4_ (ok' := fun k_ => k_ ≠ gb328) ho0 (fun k_ hk_ => (Kd.freshB (g := gb328) (o := .cells #[.bool t324, .slice Ao43 t325.length co43] 26 (0, 0)) (by (with_reducible repeat (first | refine k1_ ?_ _ | refine k2_ ?_ | refine k3_ ?_ _)); exact BK328.out) k_ hk_))) (below_size (by repeat (first | (with_reducible first | exact HB.out | apply b1_ | apply b2_ | apply b3_ | refine b4_ ?_ GE328.out) | exact HB.out))))
          have n3_ := a0_ (blk_below (g := gb328) (o := .cells #[.bool t324, .slice Ao43 t325.length co43] 26 (0, 0)) (by (with_reducible repeat (first | refine k1_ ?_ _ | refine k2_ ?_ | refine k3_ ?_ _)); exact BK328.out) hb)
          have n4_ := a0_ (below_step (by repeat (first | (with_reducible first | exact HB.out | apply b1_ | apply b2_ | apply b3_ | refine b4_ ?_ GE328.out) | exact HB.out)) hb)
          clear HO327
          clear HO332
          clear BK328
          clear HB
          have HO327 := n0_
          have HO332 := n1_
          have HO336 := n2_
          have BK328 := n3_
          have HB := n4_
          clear n0_ n1_ n2_ n3_ n4_
          (try clear hb)
          (try clear hb2)
          (try clear hk)
          (try clear hi)
          (try clear ho0)
          obtain ⟨Ao50, co50, eo50⟩ := Kd.V_slice HO336.out
          (first | subst eo50 | (injection eo50 with f1_ f2_ f3_; have f4_ := f1_.symm; have f5_ := f3_.symm; clear f1_ f2_ f3_; subst f4_; subst f5_))
          refine hK.out _ _ ⟨(blk_cell BK328.out 0).trans rfl, (blk_cell BK328.out 1).trans rfl⟩ (fun hHeld => ?_)
          clear hK K
          refine norm_ (a' := ?_) ?_ ?_
          rotate_left
          ·
           show Act.put _ (some 48) _ = _
           simp only [Act.put, s1_, s2_, s3_, i64_w, i32_w]
           rfl
          refine last_ (i := 7) (N := none) #[true, true, true, true, true, true, true, true] rfl rfl (one_of HT_.out (by kernel_rfl)) (by decide) (fun K hK => ?_)
          have hs49 : w48.cell? ⟨gb328, 0, none⟩ = some (.bool t324) := (blk_cell BK328.out 0).trans rfl
          have hfs49 := blk_frozen BK328.out 0
          have hs51 : w48.cell? ⟨gb328, 1, none⟩ = some (.slice Ao43 t325.length co43) := (blk_cell BK328.out 1).trans rfl
          have hfs51 := blk_frozen BK328.out 1
          refine skip_ (w1 := ?_) (by rfl) rfl ?_ ?_
          rotate_left
          ·
           go_simp
           rfl
          refine hK.out _ _ ?_
          clear hK K
          refine done_ (done_of HT_.out (by kernel_rfl)) ?_
          have n0_ : Aside0 (Kd.V (Kd.int .u32) 40 ((w48.setCell ⟨gb328, 0, none⟩ (.bool t333)).setCell ⟨gb328, 1, none⟩ (.slice Ao50 t334.length co50)) w.heap.size (fun k_ => k_ ≠ gb328) (.slice Ao43 t325.length co43) t325) := ⟨by (with_reducible repeat (first | apply v1_ | apply v2_ | apply v3_)); exact v4_ (v5_ (p := ⟨gb328, 1, none⟩) (v5_ (p := ⟨gb328, 0, none⟩) (v4_ HO327.out (fun k_ hk => (⟨hk, hk⟩ : _ ∧ k_ ≠ gb328))) (fun _ hk => hk.2) (.bool t333)) (fun _ hk => hk.2) (.slice Ao50 t334.length co50)) (fun _ hk => hk.1)⟩
          have n1_ : Aside0 (Kd.V (Kd.int .u32) 40 ((w48.setCell ⟨gb328, 0, none⟩ (.bool t333)).setCell ⟨gb328, 1, none⟩ (.slice Ao50 t334.length co50)) w.heap.size (fun k_ => k_ ≠ gb328) (.slice Ao47 t330.length co47) t330) := ⟨by (with_reducible repeat (first | apply v1_ | apply v2_ | apply v3_)); exact v4_ (v5_ (p := ⟨gb328, 1, none⟩) (v5_ (p := ⟨gb328, 0, none⟩) (v4_ HO332.out (fun k_ hk => (⟨hk, hk⟩ : _ ∧ k_ ≠ gb328))) (fun _ hk => hk.2) (.bool t333)) (fun _ hk => hk.2) (.slice Ao50 t334.length co50)) (fun _ hk => hk.1)⟩
          have n2_ : Aside0 (Kd.V (Kd.int .u32) 40 ((w48.setCell ⟨gb328, 0, none⟩ (.bool t333)).setCell ⟨gb328, 1, none⟩ (.slice Ao50 t334.length co50)) w.heap.size (fun k_ => k_ ≠ gb328) (.slice Ao50 t334.length co50) t334) := ⟨by (with_reducible repeat (first | apply v1_ | apply v2_ | apply v3_)); exact v4_ (v5_ (p := ⟨gb328, 1, none⟩) (v5_ (p := ⟨gb328, 0, none⟩) (v4_ HO336.out (fun k_ hk => (⟨hk, hk⟩ : _ ∧ k_ ≠ gb328))) (fun _ hk => hk.2) (.bool t333)) (fun _ hk => hk.2) (.slice Ao50 t334.length co50)) (fun _ hk => hk.1)⟩
          have n3_ : Aside0 (((w48.setCell ⟨gb328, 0, none⟩ (.bool t333)).setCell ⟨gb328, 1, none⟩ (.slice Ao50 t334.length co50)).heap[gb328]? = some (.cells #[.bool t333, .slice Ao50 t334.length co50] 26 (0, 0))) := ⟨by (with_reducible repeat (first | refine k1_ ?_ _ | refine k2_ ?_ | refine k3_ ?_ _)); refine blk_put (cs := #[.bool t333, .slice Ao43 t325.length co43]) ?_ 1 _ rfl; (with_reducible repeat (first | refine k1_ ?_ _ | refine k2_ ?_ | refine k3_ ?_ _)); refine blk_put (cs := #[.bool t324, .slice Ao43 t325.length co43]) ?_ 0 _ rfl; (with_reducible repeat (first | refine k1_ ?_ _ | refine k2_ ?_ | refine k3_ ?_ _)); exact BK328.out⟩
          have n4_ : Aside0 (Below w.heap.size w ((w48.setCell ⟨gb328, 0, none⟩ (.bool t333)).setCell ⟨gb328, 1, none⟩ (.slice Ao50 t334.length co50))) := ⟨by repeat (first | (with_reducible first | exact HB.out | apply b1_ | apply b2_ | apply b3_ | refine b4_ ?_ GE328.out) | exact HB.out)⟩
          (try clear HO327)
          (try clear HO332)
          (try clear HO336)
          (try clear BK328)
          (try clear HB)
          generalize ((w48.setCell ⟨gb328, 0, none⟩ (.bool t333)).setCell ⟨gb328, 1, none⟩ (.slice Ao50 t334.length co50)) = w52 at n0_ n1_ n2_ n3_ n4_ ⊢
          have HO327 := n0_
          have HO332 := n1_
          have HO336 := n2_
          have BK328 := n3_
          have HB := n4_
          clear n0_ n1_ n2_ n3_ n4_
          have hcz53_0 : w52.cell? ⟨gb328, 0, none⟩ = some (.bool t333) := (blk_cell BK328.out 0).trans rfl
          have hcz53_1 : w52.cell? ⟨gb328, 1, none⟩ = some (.slice Ao50 t334.length co50) := (blk_cell BK328.out 1).trans rfl
          have hfz53_0 := blk_frozen BK328.out 0
          have hfz53_1 := blk_frozen BK328.out 1
          try go_wp2_with (first | ((with_reducible refine gate_callee (f := 9) rfl ?_); refine goesL_ (some 61) rfl rfl Tryd.func9 (by kernel_rfl) rfl #[.agg #[.bool t333, .slice Ao50 t334.length co50], .int .i64 1] rfl (by (try simp only [List.map_toArray, List.map_cons, List.map_nil]); first | done | rfl | (simp only [List.length_drop, List.length_take]; rfl)) ?_; (with_reducible refine (spec_ToWords.calls kj4 t333 (fun k_ => k_ ≠ gb328) _ _ t334 1 t337 true _ ?side1 A16.out).mono ?_); (case side1 => exact HO336.out); rintro e w54 ⟨v338, rfl, ho0, hb⟩; refine ⟨_, rfl, ?_⟩; have n0_ := a0_ (Kd.V_elder' (by (with_reducible repeat (first | apply v1_ | apply v2_ | apply v3_)); exact HO327.out) (Kd.R_base ho0) hb); have n1_ := a0_ (Kd.V_elder' (by (with_reducible repeat (first | apply v1_ | apply v2_ | apply v3_)); exact HO332.out) (Kd.R_base ho0) hb); have n2_ := a0_ (Kd.V_elder' (by (with_reducible repeat (first | apply v1_ | apply v2_ | apply v3_)); exact HO336.out) (Kd.R_base ho0) hb); have n3_ := a0_ (Kd.R_lower (Kd.R_mono (ok' := fun k_ => True) ho0 (fun _ hk_ => trivial)) (below_size (by repeat (first | (with_reducible first | exact HB.out | apply b1_ | apply b2_ | apply b3_ | refine b4_ ?_ GE328.out) | exact HB.out)))); have n4_ := a0_ (blk_below (g := gb328) (o := .cells #[.bool t333, .slice Ao50 t334.length co50] 26 (0, 0)) (by (with_reducible repeat (first | refine k1_ ?_ _ | refine k2_ ?_ | refine k3_ ?_ _)); exact BK328.out) hb); have n5_ := a0_ (below_step (by repeat (first | (with_reducible first | exact HB.out | apply b1_ | apply b2_ | apply b3_ | refine b4_ ?_ GE328.out) | exact HB.out)) hb); clear HO327; clear HO332; clear HO336; clear BK328; clear HB; have HO327 := n0_; have HO332 := n1_; have HO336 := n2_; have HO339 := n3_; have BK328 := n4_; have HB := n5_; clear n0_ n1_ n2_ n3_ n4_ n5_; (try clear hb); (try clear hb2); (try clear hk); (try clear hi); (try clear ho0)) | ((with_reducible refine gate_callee (f := 4) rfl ?_); refine goesL_ (some 68) rfl rfl Tryd.func4 (by kernel_rfl) rfl #[.int .i64 a0, .int .i64 a1, .int .i64 a2] rfl (by (try simp only [List.map_toArray, List.map_cons, List.map_nil]); first | done | rfl | (simp only [List.length_drop, List.length_take]; rfl)) ?_; (with_reducible refine (impl_UnitConvert.calls a0 a1 a2 t341 true _ A17.out (HTAB.out.below (by repeat (first | (with_reducible first | exact HB.out | apply b1_ | apply b2_ | apply b3_ | refine b4_ ?_ GE328.out) | exact HB.out)))).mono ?_); rintro e w55 ⟨rfl, hb⟩; refine ⟨_, rfl, ?_⟩; have n0_ := a0_ (Kd.V_below (by (with_reducible repeat (first | apply v1_ | apply v2_ | apply v3_)); exact HO327.out) hb); have n1_ := a0_ (Kd.V_below (by (with_reducible repeat (first | apply v1_ | apply v2_ | apply v3_)); exact HO332.out) hb); have n2_ := a0_ (Kd.V_below (by (with_reducible repeat (first | apply v1_ | apply v2_ | apply v3_)); exact HO336.out) hb); have n3_ := a0_ (Kd.R_below (by (with_reducible repeat (first | apply r1_ | apply r2_ | apply r3_)); exact HO339.out) hb); have n4_ := a0_ (blk_below (g := gb328) (o := .cells #[.bool t333, .slice Ao50 t334.length co50] 26 (0, 0)) (by (with_reducible repeat (first | refine k1_ ?_ _ | refine k2_ ?_ | refine k3_ ?_ _)); exact BK328.out) hb); have n5_ := a0_ (below_step (by repeat (first | (with_reducible first | exact HB.out | apply b1_ | apply b2_ | apply b3_ | refine b4_ ?_ GE328.out) | exact HB.out)) hb); clear HO327; clear HO332; clear HO336; clear HO339; clear BK328; clear HB; have HO327 := n0_; have HO332 := n1_; have HO336 := n2_; have HO339 := n3_; have BK328 := n4_; have HB := n5_; clear n0_ n1_ n2_ n3_ n4_ n5_; (try clear hb); (try clear hb2); (try clear hk); (try clear hi); obtain ⟨Ao56, co56, eo56⟩ := Kd.R_slice HO339.out; subst eo56; have p343 : 0 ≤ (0 : Int) := (by omega); have q343 : 0 < (t337.length : Int) := d1_ (by first | (with_reducible assumption) | assumption); obtain ⟨ad343, e343, hx343_0⟩ := Kd.at_int (Kd.R_reads' HO339.out).2.2 0 p343 q343; cases e343; have qi343 : (0 < t337.length) = True := eq_true (by omega); (try rw [show ((0 : Int)).toNat = 0 from rfl] at hx343_0); (try rw [Addr.add_zero'] at hx343_0); replace p343 := eq_true p343; replace q343 := eq_true q343))
          go_ret
          exact ⟨by first | rfl | (simp [e1_, e2_] <;> rfl) | (simp [*, e1_, e2_] <;> rfl), by repeat (first | (with_reducible first | exact HB.out | apply b1_ | apply b2_ | apply b3_ | refine b4_ ?_ GE328.out) | exact HB.out)⟩
        ·
         rw [if_neg c21] at H
         have c21b0 : (t341 == (wrap64 (rd t337 0))) = false := beq_eq_false_iff_ne.mpr c21
         have c21b1 : (t341 != (wrap64 (rd t337 0))) = true := bne_iff_ne.mpr c21
         obtain rfl := o1_ H
         try go_wp2_with (first | ((with_reducible refine gate_callee (f := 5) rfl ?_); refine goesL_ (some 38) rfl rfl Tryd.func5 (by kernel_rfl) rfl #[.int .i64 a2] rfl (by (try simp only [List.map_toArray, List.map_cons, List.map_nil]); first | done | rfl | (simp only [List.length_drop, List.length_take]; rfl)) ?_; (with_reducible refine (spec_WideInt.calls kj4 a2 t324 t325 _ A12.out).mono ?_); rintro e w57 ⟨v326, rfl, ho0, hb⟩; refine ⟨_, rfl, ?_⟩; have n0_ := a0_ (Kd.V_lower (v4_ (ok' := fun k_ => True) ho0 (fun k_ hk_ => trivial)) (below_size (by repeat (first | (with_reducible first | exact HB.out | apply b1_ | apply b2_ | apply b3_) | exact HB.out)))); have n1_ := a0_ (below_step (by repeat (first | (with_reducible first | exact HB.out | apply b1_ | apply b2_ | apply b3_) | exact HB.out)) hb); clear HB; have HO327 := n0_; have HB := n1_; clear n0_ n1_; (try clear hb); (try clear hb2); (try clear hk); (try clear hi); (try clear ho0)) | ((with_reducible refine gate_dst (N := 9) rfl ?_); refine box_event ?hg (N := 9) ?hd (cs := #[.bool false, .slice none 0 0]) (t := 26) ?hr ?_; (case hd => rfl); (case hg => rfl); (case hr => first | (go_simp; done) | (go_simp; rfl)); intro gb328 hg w58 hbox hb; have n0_ := a0_ (Kd.V_below (Kd.V_elderB (by (with_reducible repeat (first | apply v1_ | apply v2_ | apply v3_)); exact HO327.out) gb328 (Nat.le_of_eq hg.symm)) hb); have n1_ := a0_ (below_step (by repeat (first | (with_reducible first | exact HB.out | apply b1_ | apply b2_ | apply b3_) | exact HB.out)) hb); have n2_ := a0_ (hbox); have n3_ := a0_ ((by rw [hg]; exact (below_size (by repeat (first | (with_reducible first | exact HB.out | apply b1_ | apply b2_ | apply b3_) | exact HB.out))) : w.heap.size ≤ gb328)); have n4_ := a0_ ((by rw [hg]; exact (below_size (by repeat (first | (with_reducible first | exact HB.out | apply b1_ | apply b2_ | apply b3_) | exact HB.out))) : w.heap.size ≤ gb328)); clear HO327; clear HB; have HO327 := n0_; have HB := n1_; have BK328 := n2_; have GW328 := n3_; have GE328 := n4_; clear n0_ n1_ n2_ n3_ n4_; clear hb hbox hg; have hcz59_0 : w58.cell? ⟨gb328, 0, none⟩ = some (.bool false) := (blk_cell BK328.out 0).trans rfl; have hcz59_1 : w58.cell? ⟨gb328, 1, none⟩ = some (.slice none 0 0) := (blk_cell BK328.out 1).trans rfl; have hfz59_0 := blk_frozen BK328.out 0; have hfz59_1 := blk_frozen BK328.out 1; obtain ⟨Ao60, co60, eo60⟩ := Kd.V_slice HO327.out; subst eo60))
         have n0_ : Aside0 (Kd.V (Kd.int .u32) 40 ((w58.setCell ⟨gb328, 0, none⟩ (.bool t324)).setCell ⟨gb328, 1, none⟩ (.slice Ao60 t325.length co60)) w.heap.size (fun k_ => k_ ≠ gb328) (.slice Ao60 t325.length co60) t325) := ⟨by (with_reducible repeat (first | apply v1_ | apply v2_ | apply v3_)); exact v4_ (v5_ (p := ⟨gb328, 1, none⟩) (v5_ (p := ⟨gb328, 0, none⟩) (v4_ HO327.out (fun k_ hk => (⟨hk, hk.2⟩ : _ ∧ k_ ≠ gb328))) (fun _ hk => hk.2) (.bool t324)) (fun _ hk => hk.2) (.slice Ao60 t325.length co60)) (fun _ hk => hk.1.2)⟩
         have n1_ : Aside0 (((w58.setCell ⟨gb328, 0, none⟩ (.bool t324)).setCell ⟨gb328, 1, none⟩ (.slice Ao60 t325.length co60)).heap[gb328]? = some (.cells #[.bool t324, .slice Ao60 t325.length co60] 26 (0, 0))) := ⟨by (with_reducible repeat (first | refine k1_ ?_ _ | refine k2_ ?_ | refine k3_ ?_ _)); refine blk_put (cs := #[.bool t324, .slice none 0 0]) ?_ 1 _ rfl; (with_reducible repeat (first | refine k1_ ?_ _ | refine k2_ ?_ | refine k3_ ?_ _)); refine blk_put (cs := #[.bool false, .slice none 0 0]) ?_ 0 _ rfl; (with_reducible repeat (first | refine k1_ ?_ _ | refine k2_ ?_ | refine k3_ ?_ _)); exact BK328.out⟩
         have n2_ : Aside0 (Below w.heap.size w ((w58.setCell ⟨gb328, 0, none⟩ (.bool t324)).setCell ⟨gb328, 1, none⟩ (.slice Ao60 t325.length co60))) := ⟨by repeat (first | (with_reducible first | exact HB.out | apply b1_ | apply b2_ | apply b3_ | refine b4_ ?_ GE328.out) | exact HB.out)⟩
         (try clear HO327)
         (try clear BK328)
         (try clear HB)
         generalize ((w58.setCell ⟨gb328, 0, none⟩ (.bool t324)).setCell ⟨gb328, 1, none⟩ (.slice Ao60 t325.length co60)) = w61 at n0_ n1_ n2_ ⊢
         have HO327 := n0_
         have BK328 := n1_
         have HB := n2_
         clear n0_ n1_ n2_
         have n0_ := a0_ (v3_ HO327.out)
         have n1_ := a0_ (k2_ BK328.out)
         have n2_ := a0_ (b3_ HB.out)
         clear HO327
         clear BK328
         clear HB
         have HO327 := n0_
         have BK328 := n1_
         have HB := n2_
         clear n0_ n1_ n2_
         refine start_ (n := 8) (S := fun w' => w'.cell? ⟨gb328, 0, none⟩ = some (.bool t324) ∧ w'.cell? ⟨gb328, 1, none⟩ = some (.slice Ao60 t325.length co60)) (ds := [7]) #[false, false, false, false, false, false, false, false] (by kernel_rfl) rfl rfl ⟨(blk_cell BK328.out 0).trans rfl, (blk_cell BK328.out 1).trans rfl⟩ (fun hHeld => ?_); refine with_tabW laws_FnUnitConvert.tab6 laws_FnUnitConvert.bits6 (fun HT_ HW_ => ?_)
         generalize w61.drew = w62 at HO327 BK328 HB hHeld ⊢
         refine pure_ (i := 1) (N := some 43) (v := ?_) (a' := ?_) #[false, true, false, false, false, false, false, false] rfl rfl (any_of HT_.out (by kernel_rfl)) (fun _ _ _ h => h) (Or.inl ⟨by rfl, ?_⟩) ?_ ?_
         rotate_left
         ·
          intro w'
          go_simp
          with_reducible rfl
         rotate_left
         ·
          simp only [Act.put, s1_, s2_, s3_, i64_w, i32_w]
          rfl
         refine pure_ (i := 2) (N := some 44) (v := ?_) (a' := ?_) #[false, true, true, false, false, false, false, false] rfl rfl (any_of HT_.out (by kernel_rfl)) (fun _ _ _ h => h) (Or.inl ⟨by rfl, ?_⟩) ?_ ?_
         rotate_left
         ·
          intro w'
          go_simp
          with_reducible rfl
         rotate_left
         ·
          simp only [Act.put, s1_, s2_, s3_, i64_w, i32_w]
          rfl
         refine pure_ (i := 3) (N := some 45) (v := ?_) (a' := ?_) #[false, true, true, true, false, false, false, false] rfl rfl (any_of HT_.out (by kernel_rfl)) (fun _ _ _ h => h) (Or.inl ⟨by rfl, ?_⟩) ?_ ?_
         rotate_left
         ·
          intro w'
          go_simp
          with_reducible rfl
         rotate_left
         ·
          simp only [Act.put, s1_, s2_, s3_, i64_w, i32_w]
          rfl
         refine pure_ (i := 4) (N := some 46) (v := ?_) (a' := ?_) #[false, true, true, true, true, false, false, false] rfl rfl (any_of HT_.out (by kernel_rfl)) (fun _ _ _ h => h) (Or.inl ⟨by rfl, ?_⟩) ?_ ?_
         rotate_left
         ·
          intro w'
          go_simp
          with_reducible rfl
         rotate_left
         ·
          simp only [Act.put, s1_, s2_, s3_, i64_w, i32_w]
          rfl
         refine take_ (i := 0) (N := some 42) (v := ?_) (a' := ?_) #[true, true, true, true, true, false, false, false] rfl rfl (take_ofW HT_.out HW_.out (by kernel_rfl)) (fun _ _ _ h => h) (Or.inl ⟨by rfl, ?_⟩) hHeld ?_ ?_
         rotate_left
         ·
          rintro w' ⟨s0, s1⟩
          go_simp
          with_reducible rfl
         rotate_left
         ·
          simp only [Act.put, s1_, s2_, s3_, i64_w, i32_w]
          rfl
         refine one_ (i := 5) (N := some 47) #[true, true, true, true, true, true, false, false] rfl rfl (one_of HT_.out (by kernel_rfl)) (by decide) (fun K hK => ?_)
         refine goes_ Tryd.func7 (by kernel_rfl) rfl #[.int .i64 (wrap64 (3 * (wrap64 (a1 - a0))))] (by rfl) rfl rfl (by (try simp only [List.map_toArray, List.map_cons, List.map_nil]); first | done | rfl | (simp only [List.length_drop, List.length_take]; rfl)) ?_
         with_reducible refine (spec_Ten.calls kj4 (wrap64 (3 * (wrap64 (a1 - a0)))) t329 t330 _ A14.out).mono ?_
         rintro e w63 ⟨v331, rfl, ho0, hb⟩
         refine ⟨_, rfl, ?_⟩
         have n0_ := a0_ (Kd.V_below (by (with_reducible repeat (first | apply v1_ | apply v2_ | apply v3_)); exact HO327.out) hb)
         have n1_ := a0_ (Kd.V_lower (v4_ (ok' := fun k_ => k_ ≠ gb328) ho0 (fun k_ hk_ => (Kd.freshB (g := gb328) (o := .cells #[.bool t324, .slice Ao60 t325.length co60] 26 (0, 0)) (by (with_reducible repeat (first | refine k1_ ?_ _ | refine k2_ ?_ | refine k3_ ?_ _)); exact BK328.out) k_ hk_))) (below_size (by repeat (first | (with_reducible first | exact HB.out | apply b1_ | apply b2_ | apply b3_ | refine b4_ ?_ GE328.out) | exact HB.out))))
         have n2_ := a0_ (blk_below (g := gb328) (o := .cells #[.bool t324, .slice Ao60 t325.length co60] 26 (0, 0)) (by (with_reducible repeat (first | refine k1_ ?_ _ | refine k2_ ?_ | refine k3_ ?_ _)); exact BK328.out) hb)
         have n3_ := a0_ (below_step (by repeat (first | (with_reducible first | exact HB.out | apply b1_ | apply b2_ | apply b3_ | refine b4_ ?_ GE328.out) | exact HB.out)) hb)
         clear HO327
         clear BK328
         clear HB
         have HO327 := n0_
         have HO332 := n1_
         have BK328 := n2_
         have HB := n3_
         clear n0_ n1_ n2_ n3_
         (try clear hb)
         (try clear hb2)
         (try clear hk)
         (try clear hi)
         (try clear ho0)
         obtain ⟨Ao64, co64, eo64⟩ := Kd.V_slice HO332.out
         (first | subst eo64 | (injection eo64 with f1_ f2_ f3_; have f4_ := f1_.symm; have f5_ := f3_.symm; clear f1_ f2_ f3_; subst f4_; subst f5_))
         refine hK.out _ _ ⟨(blk_cell BK328.out 0).trans rfl, (blk_cell BK328.out 1).trans rfl⟩ (fun hHeld => ?_)
         clear hK K
         refine norm_ (a' := ?_) ?_ ?_
         rotate_left
         ·
          show Act.put _ (some 47) _ = _
          simp only [Act.put, s1_, s2_, s3_, i64_w, i32_w]
          rfl
         refine one_ (i := 6) (N := some 48) #[true, true, true, true, true, true, true, false] rfl rfl (one_of HT_.out (by kernel_rfl)) (by decide) (fun K hK => ?_)
         refine goes_ Tryd.func6 (by kernel_rfl) rfl #[.agg #[.bool t324, .slice Ao60 t325.length co60], .agg #[.bool t329, .slice Ao64 t330.length co64]] (by rfl) rfl rfl (by (try simp only [List.map_toArray, List.map_cons, List.map_nil]); first | done | rfl | (simp only [List.length_drop, List.length_take]; rfl)) ?_
         with_reducible refine (spec_WideMul.calls kj4 t324 _ _ t325 t329 _ _ t330 t333 t334 _ ?side1 ?side2 ?side3 ?side4 A15.out).mono ?_
         (case side1 => repeat (first | exact (Kd.V_reads' HO327.out).2.2 | (with_reducible refine Kd.C_alloc ?_ _) | (with_reducible refine Kd.C_drewN ?_ _) | (with_reducible refine Kd.C_drew ?_)))
         (case side2 => exact (Kd.V_reads' HO327.out).2.1)
         (case side3 => repeat (first | exact (Kd.V_reads' HO332.out).2.2 | (with_reducible refine Kd.C_alloc ?_ _) | (with_reducible refine Kd.C_drewN ?_ _) | (with_reducible refine Kd.C_drew ?_)))
         (case side4 => exact (Kd.V_reads' HO332.out).2.1)
         rintro e w65 ⟨v335, rfl, ho0, hb⟩
         refine ⟨_, rfl, ?_⟩
         have n0_ := a0_ (Kd.V_below (by (with_reducible repeat (first | apply v1_ | apply v2_ | apply v3_)); exact HO327.out) hb)
         have n1_ := a0_ (Kd.V_below (by (with_reducible repeat (first | apply v1_ | apply v2_ | apply v3_)); exact HO332.out) hb)
         have n2_ := a0_ (Kd.V_lower (v4_ (ok' := fun k_ => k_ ≠ gb328) ho0 (fun k_ hk_ => (Kd.freshB (g := gb328) (o := .cells #[.bool t324, .slice Ao60 t325.length co60] 26 (0, 0)) (by (with_reducible repeat (first | refine k1_ ?_ _ | refine k2_ ?_ | refine k3_ ?_ _)); exact BK328.out) k_ hk_))) (below_size (by repeat (first | (with_reducible first | exact HB.out | apply b1_ | apply b2_ | apply b3_ | refine b4_ ?_ GE328.out) | exact HB.out))))
         have n3_ := a0_ (blk_below (g := gb328) (o := .cells #[.bool t324, .slice Ao60 t325.length co60] 26 (0, 0)) (by (with_reducible repeat (first | refine k1_ ?_ _ | refine k2_ ?_ | refine k3_ ?_ _)); exact BK328.out) hb)
         have n4_ := a0_ (below_step (by repeat (first | (with_reducible first | exact HB.out | apply b1_ | apply b2_ | apply b3_ | refine b4_ ?_ GE328.out) | exact HB.out)) hb)
         clear HO327
         clear HO332
         clear BK328
         clear HB
         have HO327 := n0_
         have HO332 := n1_
         have HO336 := n2_
         have BK328 := n3_
         have HB := n4_
         clear n0_ n1_ n2_ n3_ n4_
         (try clear hb)
         (try clear hb2)
         (try clear hk)
         (try clear hi)
         (try clear ho0)
         obtain ⟨Ao67, co67, eo67⟩ := Kd.V_slice HO336.out
         (first | subst eo67 | (injection eo67 with f1_ f2_ f3_; have f4_ := f1_.symm; have f5_ := f3_.symm; clear f1_ f2_ f3_; subst f4_; subst f5_))
         refine hK.out _ _ ⟨(blk_cell BK328.out 0).trans rfl, (blk_cell BK328.out 1).trans rfl⟩ (fun hHeld => ?_)
         clear hK K
         refine norm_ (a' := ?_) ?_ ?_
         rotate_left
         ·
          show Act.put _ (some 48) _ = _
          simp only [Act.put, s1_, s2_, s3_, i64_w, i32_w]
          rfl
         refine last_ (i := 7) (N := none) #[true, true, true, true, true, true, true, true] rfl rfl (one_of HT_.out (by kernel_rfl)) (by decide) (fun K hK => ?_)
         have hs66 : w65.cell? ⟨gb328, 0, none⟩ = some (.bool t324) := (blk_cell BK328.out 0).trans rfl
         have hfs66 := blk_frozen BK328.out 0
         have hs68 : w65.cell? ⟨gb328, 1, none⟩ = some (.slice Ao60 t325.length co60) := (blk_cell BK328.out 1).trans rfl
         have hfs68 := blk_frozen BK328.out 1
         refine skip_ (w1 := ?_) (by rfl) rfl ?_ ?_
         rotate_left
         ·
          go_simp
          rfl
         refine hK.out _ _ ?_
         clear hK K
         refine done_ (done_of HT_.out (by kernel_rfl)) ?_
         have n0_ : Aside0 (Kd.V (Kd.int .u32) 40 ((w65.setCell ⟨gb328, 0, none⟩ (.bool t333)).setCell ⟨gb328, 1, none⟩ (.slice Ao67 t334.length co67)) w.heap.size (fun k_ => k_ ≠ gb328) (.slice Ao60 t325.length co60) t325) := ⟨by (with_reducible repeat (first | apply v1_ | apply v2_ | apply v3_)); exact v4_ (v5_ (p := ⟨gb328, 1, none⟩) (v5_ (p := ⟨gb328, 0, none⟩) (v4_ HO327.out (fun k_ hk => (⟨hk, hk⟩ : _ ∧ k_ ≠ gb328))) (fun _ hk => hk.2) (.bool t333)) (fun _ hk => hk.2) (.slice Ao67 t334.length co67)) (fun _ hk => hk.1)⟩
         have n1_ : Aside0 (Kd.V (Kd.int .u32) 40 ((w65.setCell ⟨gb328, 0, none⟩ (.bool t333)).setCell ⟨gb328, 1, none⟩ (.slice Ao67 t334.length co67)) w.heap.size (fun k_ => k_ ≠ gb328) (.slice Ao64 t330.length co64) t330) := ⟨by (with_reducible repeat (first | apply v1_ | apply v2_ | apply v3_)); exact v4_ (v5_ (p := ⟨gb328, 1, none⟩) (v5_ (p := ⟨gb328, 0, none⟩) (v4_ HO332.out (fun k_ hk => (⟨hk, hk⟩ : _ ∧ k_ ≠ gb328))) (fun _ hk => hk.2) (.bool t333)) (fun _ hk => hk.2) (.slice Ao67 t334.length co67)) (fun _ hk => hk.1)⟩
         have n2_ : Aside0 (Kd.V (Kd.int .u32) 40 ((w65.setCell ⟨gb328, 0, none⟩ (.bool t333)).setCell ⟨gb328, 1, none⟩ (.slice Ao67 t334.length co67)) w.heap.size (fun k_ => k_ ≠ gb328) (.slice Ao67 t334.length co67) t334) := ⟨by (with_reducible repeat (first | apply v1_ | apply v2_ | apply v3_)); exact v4_ (v5_ (p := ⟨gb328, 1, none⟩) (v5_ (p := ⟨gb328, 0, none⟩) (v4_ HO336.out (fun k_ hk => (⟨hk, hk⟩ : _ ∧ k_ ≠ gb328))) (fun _ hk => hk.2) (.bool t333)) (fun _ hk => hk.2) (.slice Ao67 t334.length co67)) (fun _ hk => hk.1)⟩
         have n3_ : Aside0 (((w65.setCell ⟨gb328, 0, none⟩ (.bool t333)).setCell ⟨gb328, 1, none⟩ (.slice Ao67 t334.length co67)).heap[gb328]? = some (.cells #[.bool t333, .slice Ao67 t334.length co67] 26 (0, 0))) := ⟨by (with_reducible repeat (first | refine k1_ ?_ _ | refine k2_ ?_ | refine k3_ ?_ _)); refine blk_put (cs := #[.bool t333, .slice Ao60 t325.length co60]) ?_ 1 _ rfl; (with_reducible repeat (first | refine k1_ ?_ _ | refine k2_ ?_ | refine k3_ ?_ _)); refine blk_put (cs := #[.bool t324, .slice Ao60 t325.length co60]) ?_ 0 _ rfl; (with_reducible repeat (first | refine k1_ ?_ _ | refine k2_ ?_ | refine k3_ ?_ _)); exact BK328.out⟩
         have n4_ : Aside0 (Below w.heap.size w ((w65.setCell ⟨gb328, 0, none⟩ (.bool t333)).setCell ⟨gb328, 1, none⟩ (.slice Ao67 t334.length co67))) := ⟨by repeat (first | (with_reducible first | exact HB.out | apply b1_ | apply b2_ | apply b3_ | refine b4_ ?_ GE328.out) | exact HB.out)⟩
         (try clear HO327)
         (try clear HO332)
         (try clear HO336)
         (try clear BK328)
         (try clear HB)
         generalize ((w65.setCell ⟨gb328, 0, none⟩ (.bool t333)).setCell ⟨gb328, 1, none⟩ (.slice Ao67 t334.length co67)) = w69 at n0_ n1_ n2_ n3_ n4_ ⊢
         have HO327 := n0_
         have HO332 := n1_
         have HO336 := n2_
         have BK328 := n3_
         have HB := n4_
         clear n0_ n1_ n2_ n3_ n4_
         have hcz70_0 : w69.cell? ⟨gb328, 0, none⟩ = some (.bool t333) := (blk_cell BK328.out 0).trans rfl
         have hcz70_1 : w69.cell? ⟨gb328, 1, none⟩ = some (.slice Ao67 t334.length co67) := (blk_cell BK328.out 1).trans rfl
         have hfz70_0 := blk_frozen BK328.out 0
         have hfz70_1 := blk_frozen BK328.out 1
         try go_wp2_with (first | ((with_reducible refine gate_callee (f := 9) rfl ?_); refine goesL_ (some 61) rfl rfl Tryd.func9 (by kernel_rfl) rfl #[.agg #[.bool t333, .slice Ao67 t334.length co67], .int .i64 1] rfl (by (try simp only [List.map_toArray, List.map_cons, List.map_nil]); first | done | rfl | (simp only [List.length_drop, List.length_take]; rfl)) ?_; (with_reducible refine (spec_ToWords.calls kj4 t333 (fun k_ => k_ ≠ gb328) _ _ t334 1 t337 true _ ?side1 A16.out).mono ?_); (case side1 => exact HO336.out); rintro e w71 ⟨v338, rfl, ho0, hb⟩; refine ⟨_, rfl, ?_⟩; have n0_ := a0_ (Kd.V_elder' (by (with_reducible repeat (first | apply v1_ | apply v2_ | apply v3_)); exact HO327.out) (Kd.R_base ho0) hb); have n1_ := a0_ (Kd.V_elder' (by (with_reducible repeat (first | apply v1_ | apply v2_ | apply v3_)); exact HO332.out) (Kd.R_base ho0) hb); have n2_ := a0_ (Kd.V_elder' (by (with_reducible repeat (first | apply v1_ | apply v2_ | apply v3_)); exact HO336.out) (Kd.R_base ho0) hb); have n3_ := a0_ (Kd.R_lower (Kd.R_mono (ok' := fun k_ => True) ho0 (fun _ hk_ => trivial)) (below_size (by repeat (first | (with_reducible first | exact HB.out | apply b1_ | apply b2_ | apply b3_ | refine b4_ ?_ GE328.out) | exact HB.out)))); have n4_ := a0_ (blk_below (g := gb328) (o := .cells #[.bool t333, .slice Ao67 t334.length co67] 26 (0, 0)) (by (with_reducible repeat (first | refine k1_ ?_ _ | refine k2_ ?_ | refine k3_ ?_ _)); exact BK328.out) hb); have n5_ := a0_ (below_step (by repeat (first | (with_reducible first | exact HB.out | apply b1_ | apply b2_ | apply b3_ | refine b4_ ?_ GE328.out) | exact HB.out)) hb); clear HO327; clear HO332; clear HO336; clear BK328; clear HB; have HO327 := n0_; have HO332 := n1_; have HO336 := n2_; have HO339 := n3_; have BK328 := n4_; have HB := n5_; clear n0_ n1_ n2_ n3_ n4_ n5_; (try clear hb); (try clear hb2); (try clear hk); (try clear hi); (try clear ho0)) | ((with_reducible refine gate_callee (f := 4) rfl ?_); refine goesL_ (some 68) rfl rfl Tryd.func4 (by kernel_rfl) rfl #[.int .i64 a0, .int .i64 a1, .int .i64 a2] rfl (by (try simp only [List.map_toArray, List.map_cons, List.map_nil]); first | done | rfl | (simp only [List.length_drop, List.length_take]; rfl)) ?_; (with_reducible refine (impl_UnitConvert.calls a0 a1 a2 t341 true _ A17.out (HTAB.out.below (by repeat (first | (with_reducible first | exact HB.out | apply b1_ | apply b2_ | apply b3_ | refine b4_ ?_ GE328.out) | exact HB.out)))).mono ?_); rintro e w72 ⟨rfl, hb⟩; refine ⟨_, rfl, ?_⟩; have n0_ := a0_ (Kd.V_below (by (with_reducible repeat (first | apply v1_ | apply v2_ | apply v3_)); exact HO327.out) hb); have n1_ := a0_ (Kd.V_below (by (with_reducible repeat (first | apply v1_ | apply v2_ | apply v3_)); exact HO332.out) hb); have n2_ := a0_ (Kd.V_below (by (with_reducible repeat (first | apply v1_ | apply v2_ | apply v3_)); exact HO336.out) hb); have n3_ := a0_ (Kd.R_below (by (with_reducible repeat (first | apply r1_ | apply r2_ | apply r3_)); exact HO339.out) hb); have n4_ := a0_ (blk_below (g := gb328) (o := .cells #[.bool t333, .slice Ao67 t334.length co67] 26 (0, 0)) (by (with_reducible repeat (first | refine k1_ ?_ _ | refine k2_ ?_ | refine k3_ ?_ _)); exact BK328.out) hb); have n5_ := a0_ (below_step (by repeat (first | (with_reducible first | exact HB.out | apply b1_ | apply b2_ | apply b3_ | refine b4_ ?_ GE328.out) | exact HB.out)) hb); clear HO327; clear HO332; clear HO336; clear HO339; clear BK328; clear HB; have HO327 := n0_; have HO332 := n1_; have HO336 := n2_; have HO339 := n3_; have BK328 := n4_; have HB := n5_; clear n0_ n1_ n2_ n3_ n4_ n5_; (try clear hb); (try clear hb2); (try clear hk); (try clear hi); obtain ⟨Ao73, co73, eo73⟩ := Kd.R_slice HO339.out; subst eo73; have p343 : 0 ≤ (0 : Int) := (by omega); have q343 : 0 < (t337.length : Int) := d1_ (by first | (with_reducible assumption) | assumption); obtain ⟨ad343, e343, hx343_0⟩ := Kd.at_int (Kd.R_reads' HO339.out).2.2 0 p343 q343; cases e343; have qi343 : (0 < t337.length) = True := eq_true (by omega); (try rw [show ((0 : Int)).toNat = 0 from rfl] at hx343_0); (try rw [Addr.add_zero'] at hx343_0); replace p343 := eq_true p343; replace q343 := eq_true q343))
         go_ret
         exact ⟨by first | rfl | (simp [e1_, e2_] <;> rfl) | (simp [*, e1_, e2_] <;> rfl), by repeat (first | (with_reducible first | exact HB.out | apply b1_ | apply b2_ | apply b3_ | refine b4_ ?_ GE328.out) | exact HB.out)⟩
       ·
        rw [if_neg c20] at H
        exact absurd H (by simp)
      ·
       replace c19 := Bool.eq_false_iff.mpr c19
       subst c19
       have H1 : (some false) = some r := by rw [if_neg (show ¬ (false = true) by decide)] at H; exact H
       clear H
       have H := H1
       clear H1
       obtain rfl := o1_ H
       try go_wp2_with (first | ((with_reducible refine gate_callee (f := 5) rfl ?_); refine goesL_ (some 38) rfl rfl Tryd.func5 (by kernel_rfl) rfl #[.int .i64 a2] rfl (by (try simp only [List.map_toArray, List.map_cons, List.map_nil]); first | done | rfl | (simp only [List.length_drop, List.length_take]; rfl)) ?_; (with_reducible refine (spec_WideInt.calls kj4 a2 t324 t325 _ A12.out).mono ?_); rintro e w74 ⟨v326, rfl, ho0, hb⟩; refine ⟨_, rfl, ?_⟩; have n0_ := a0_ (Kd.V_lower (v4_ (ok' := fun k_ => True) ho0 (fun k_ hk_ => trivial)) (below_size (by repeat (first | (with_reducible first | exact HB.out | apply b1_ | apply b2_ | apply b3_) | exact HB.out)))); have n1_ := a0_ (below_step (by repeat (first | (with_reducible first | exact HB.out | apply b1_ | apply b2_ | apply b3_) | exact HB.out)) hb); clear HB; have HO327 := n0_; have HB := n1_; clear n0_ n1_; (try clear hb); (try clear hb2); (try clear hk); (try clear hi); (try clear ho0)) | ((with_reducible refine gate_dst (N := 9) rfl ?_); refine box_event ?hg (N := 9) ?hd (cs := #[.bool false, .slice none 0 0]) (t := 26) ?hr ?_; (case hd => rfl); (case hg => rfl); (case hr => first | (go_simp; done) | (go_simp; rfl)); intro gb328 hg w75 hbox hb; have n0_ := a0_ (Kd.V_below (Kd.V_elderB (by (with_reducible repeat (first | apply v1_ | apply v2_ | apply v3_)); exact HO327.out) gb328 (Nat.le_of_eq hg.symm)) hb); have n1_ := a0_ (below_step (by repeat (first | (with_reducible first | exact HB.out | apply b1_ | apply b2_ | apply b3_) | exact HB.out)) hb); have n2_ := a0_ (hbox); have n3_ := a0_ ((by rw [hg]; exact (below_size (by repeat (first | (with_reducible first | exact HB.out | apply b1_ | apply b2_ | apply b3_) | exact HB.out))) : w.heap.size ≤ gb328)); have n4_ := a0_ ((by rw [hg]; exact (below_size (by repeat (first | (with_reducible first | exact HB.out | apply b1_ | apply b2_ | apply b3_) | exact HB.out))) : w.heap.size ≤ gb328)); clear HO327; clear HB; have HO327 := n0_; have HB := n1_; have BK328 := n2_; have GW328 := n3_; have GE328 := n4_; clear n0_ n1_ n2_ n3_ n4_; clear hb hbox hg; have hcz76_0 : w75.cell? ⟨gb328, 0, none⟩ = some (.bool false) := (blk_cell BK328.out 0).trans rfl; have hcz76_1 : w75.cell? ⟨gb328, 1, none⟩ = some (.slice none 0 0) := (blk_cell BK328.out 1).trans rfl; have hfz76_0 := blk_frozen BK328.out 0; have hfz76_1 := blk_frozen BK328.out 1; obtain ⟨Ao77, co77, eo77⟩ := Kd.V_slice HO327.out; subst eo77))
       have n0_ : Aside0 (Kd.V (Kd.int .u32) 40 ((w75.setCell ⟨gb328, 0, none⟩ (.bool t324)).setCell ⟨gb328, 1, none⟩ (.slice Ao77 t325.length co77)) w.heap.size (fun k_ => k_ ≠ gb328) (.slice Ao77 t325.length co77) t325) := ⟨by (with_reducible repeat (first | apply v1_ | apply v2_ | apply v3_)); exact v4_ (v5_ (p := ⟨gb328, 1, none⟩) (v5_ (p := ⟨gb328, 0, none⟩) (v4_ HO327.out (fun k_ hk => (⟨hk, hk.2⟩ : _ ∧ k_ ≠ gb328))) (fun _ hk => hk.2) (.bool t324)) (fun _ hk => hk.2) (.slice Ao77 t325.length co77)) (fun _ hk => hk.1.2)⟩
       have n1_ : Aside0 (((w75.setCell ⟨gb328, 0, none⟩ (.bool t324)).setCell ⟨gb328, 1, none⟩ (.slice Ao77 t325.length co77)).heap[gb328]? = some (.cells #[.bool t324, .slice Ao77 t325.length co77] 26 (0, 0))) := ⟨by (with_reducible repeat (first | refine k1_ ?_ _ | refine k2_ ?_ | refine k3_ ?_ _)); refine blk_put (cs := #[.bool t324, .slice none 0 0]) ?_ 1 _ rfl; (with_reducible repeat (first | refine k1_ ?_ _ | refine k2_ ?_ | refine k3_ ?_ _)); refine blk_put (cs := #[.bool false, .slice none 0 0]) ?_ 0 _ rfl; (with_reducible repeat (first | refine k1_ ?_ _ | refine k2_ ?_ | refine k3_ ?_ _)); exact BK328.out⟩
       have n2_ : Aside0 (Below w.heap.size w ((w75.setCell ⟨gb328, 0, none⟩ (.bool t324)).setCell ⟨gb328, 1, none⟩ (.slice Ao77 t325.length co77))) := ⟨by repeat (first | (with_reducible first | exact HB.out | apply b1_ | apply b2_ | apply b3_ | refine b4_ ?_ GE328.out) | exact HB.out)⟩
       (try clear HO327)
       (try clear BK328)
       (try clear HB)
       generalize ((w75.setCell ⟨gb328, 0, none⟩ (.bool t324)).setCell ⟨gb328, 1, none⟩ (.slice Ao77 t325.length co77)) = w78 at n0_ n1_ n2_ ⊢
       have HO327 := n0_
       have BK328 := n1_
       have HB := n2_
       clear n0_ n1_ n2_
       have n0_ := a0_ (v3_ HO327.out)
       have n1_ := a0_ (k2_ BK328.out)
       have n2_ := a0_ (b3_ HB.out)
       clear HO327
       clear BK328
       clear HB
       have HO327 := n0_
       have BK328 := n1_
       have HB := n2_
       clear n0_ n1_ n2_
       refine start_ (n := 8) (S := fun w' => w'.cell? ⟨gb328, 0, none⟩ = some (.bool t324) ∧ w'.cell? ⟨gb328, 1, none⟩ = some (.slice Ao77 t325.length co77)) (ds := [7]) #[false, false, false, false, false, false, false, false] (by kernel_rfl) rfl rfl ⟨(blk_cell BK328.out 0).trans rfl, (blk_cell BK328.out 1).trans rfl⟩ (fun hHeld => ?_); refine with_tabW laws_FnUnitConvert.tab6 laws_FnUnitConvert.bits6 (fun HT_ HW_ => ?_)
       generalize w78.drew = w79 at HO327 BK328 HB hHeld ⊢
       refine pure_ (i := 1) (N := some 43) (v := ?_) (a' := ?_) #[false, true, false, false, false, false, false, false] rfl rfl (any_of HT_.out (by kernel_rfl)) (fun _ _ _ h => h) (Or.inl ⟨by rfl, ?_⟩) ?_ ?_
       rotate_left
       ·
        intro w'
        go_simp
        with_reducible rfl
       rotate_left
       ·
        simp only [Act.put, s1_, s2_, s3_, i64_w, i32_w]
        rfl
       refine pure_ (i := 2) (N := some 44) (v := ?_) (a' := ?_) #[false, true, true, false, false, false, false, false] rfl rfl (any_of HT_.out (by kernel_rfl)) (fun _ _ _ h => h) (Or.inl ⟨by rfl, ?_⟩) ?_ ?_
       rotate_left
       ·
        intro w'
        go_simp
        with_reducible rfl
       rotate_left
       ·
        simp only [Act.put, s1_, s2_, s3_, i64_w, i32_w]
        rfl
       refine pure_ (i := 3) (N := some 45) (v := ?_) (a' := ?_) #[false, true, true, true, false, false, false, false] rfl rfl (any_of HT_.out (by kernel_rfl)) (fun _ _ _ h => h) (Or.inl ⟨by rfl, ?_⟩) ?_ ?_
       rotate_left
       ·
        intro w'
        go_simp
        with_reducible rfl
       rotate_left
       ·
        simp only [Act.put, s1_, s2_, s3_, i64_w, i32_w]
        rfl
       refine pure_ (i := 4) (N := some 46) (v := ?_) (a' := ?_) #[false, true, true, true, true, false, false, false] rfl rfl (any_of HT_.out (by kernel_rfl)) (fun _ _ _ h => h) (Or.inl ⟨by rfl, ?_⟩) ?_ ?_
       rotate_left
       ·
        intro w'
        go_simp
        with_reducible rfl
       rotate_left
       ·
        simp only [Act.put, s1_, s2_, s3_, i64_w, i32_w]
        rfl
       refine take_ (i := 0) (N := some 42) (v := ?_) (a' := ?_) #[true, true, true, true, true, false, false, false] rfl rfl (take_ofW HT_.out HW_.out (by kernel_rfl)) (fun _ _ _ h => h) (Or.inl ⟨by rfl, ?_⟩) hHeld ?_ ?_
       rotate_left
       ·
        rintro w' ⟨s0, s1⟩
        go_simp
        with_reducible rfl
       rotate_left
       ·
        simp only [Act.put, s1_, s2_, s3_, i64_w, i32_w]
        rfl
       refine one_ (i := 5) (N := some 47) #[true, true, true, true, true, true, false, false] rfl rfl (one_of HT_.out (by kernel_rfl)) (by decide) (fun K hK => ?_)
       refine goes_ Tryd.func7 (by kernel_rfl) rfl #[.int .i64 (wrap64 (3 * (wrap64 (a1 - a0))))] (by rfl) rfl rfl (by (try simp only [List.map_toArray, List.map_cons, List.map_nil]); first | done | rfl | (simp only [List.length_drop, List.length_take]; rfl)) ?_
       with_reducible refine (spec_Ten.calls kj4 (wrap64 (3 * (wrap64 (a1 - a0)))) t329 t330 _ A14.out).mono ?_
       rintro e w80 ⟨v331, rfl, ho0, hb⟩
       refine ⟨_, rfl, ?_⟩
       have n0_ := a0_ (Kd.V_below (by (with_reducible repeat (first | apply v1_ | apply v2_ | apply v3_)); exact HO327.out) hb)
       have n1_ := a0_ (Kd.V_lower (v4_ (ok' := fun k_ => k_ ≠ gb328) ho0 (fun k_ hk_ => (Kd.freshB (g := gb328) (o := .cells #[.bool t324, .slice Ao77 t325.length co77] 26 (0, 0)) (by (with_reducible repeat (first | refine k1_ ?_ _ | refine k2_ ?_ | refine k3_ ?_ _)); exact BK328.out) k_ hk_))) (below_size (by repeat (first | (with_reducible first | exact HB.out | apply b1_ | apply b2_ | apply b3_ | refine b4_ ?_ GE328.out) | exact HB.out))))
       have n2_ := a0_ (blk_below (g := gb328) (o := .cells #[.bool t324, .slice Ao77 t325.length co77] 26 (0, 0)) (by (with_reducible repeat (first | refine k1_ ?_ _ | refine k2_ ?_ | refine k3_ ?_ _)); exact BK328.out) hb)
       have n3_ := a0_ (below_step (by repeat (first | (with_reducible first | exact HB.out | apply b1_ | apply b2_ | apply b3_ | refine b4_ ?_ GE328.out) | exact HB.out)) hb)
       clear HO327
       clear BK328
       clear HB
       have HO327 := n0_
       have HO332 := n1_
       have BK328 := n2_
       have HB := n3_
       clear n0_ n1_ n2_ n3_
       (try clear hb)
       (try clear hb2)
       (try clear hk)
       (try clear hi)
       (try clear ho0)
       obtain ⟨Ao81, co81, eo81⟩ := Kd.V_slice HO332.out
       (first | subst eo81 | (injection eo81 with f1_ f2_ f3_; have f4_ := f1_.symm; have f5_ := f3_.symm; clear f1_ f2_ f3_; subst f4_; subst f5_))
       refine hK.out _ _ ⟨(blk_cell BK328.out 0).trans rfl, (blk_cell BK328.out 1).trans rfl⟩ (fun hHeld => ?_)
       clear hK K
       refine norm_ (a' := ?_) ?_ ?_
       rotate_left
       ·
        show Act.put _ (some 47) _ = _
        simp only [Act.put, s1_, s2_, s3_, i64_w, i32_w]
        rfl
       refine one_ (i := 6) (N := some 48) #[true, true, true, true, true, true, true, false] rfl rfl (one_of HT_.out (by kernel_rfl)) (by decide) (fun K hK => ?_)
       refine goes_ Tryd.func6 (by kernel_rfl) rfl #[.agg #[.bool t324, .slice Ao77 t325.length co77], .agg #[.bool t329, .slice Ao81 t330.length co81]] (by rfl) rfl rfl (by (try simp only [List.map_toArray, List.map_cons, List.map_nil]); first | done | rfl | (simp only [List.length_drop, List.length_take]; rfl)) ?_
       with_reducible refine (spec_WideMul.calls kj4 t324 _ _ t325 t329 _ _ t330 t333 t334 _ ?side1 ?side2 ?side3 ?side4 A15.out).mono ?_
       (case side1 => repeat (first | exact (Kd.V_reads' HO327.out).2.2 | (with_reducible refine Kd.C_alloc ?_ _) | (with_reducible refine Kd.C_drewN ?_ _) | (with_reducible refine Kd.C_drew ?_)))
       (case side2 => exact (Kd.V_reads' HO327.out).2.1)
       (case side3 => repeat (first | exact (Kd.V_reads' HO332.out).2.2 | (with_reducible refine Kd.C_alloc ?_ _) | (with_reducible refine Kd.C_drewN ?_ _) | (with_reducible refine Kd.C_drew ?_)))
       (case side4 => exact (Kd.V_reads' HO332.out).2.1)
       rintro e w82 ⟨v335, rfl, ho0, hb⟩
       refine ⟨_, rfl, ?_⟩
       have n0_ := a0_ (Kd.V_below (by (with_reducible repeat (first | apply v1_ | apply v2_ | apply v3_)); exact HO327.out) hb)
       have n1_ := a0_ (Kd.V_below (by (with_reducible repeat (first | apply v1_ | apply v2_ | apply v3_)); exact HO332.out) hb)
       have n2_ := a0_ (Kd.V_lower (v4_ (ok' := fun k_ => k_ ≠ gb328) ho0 (fun k_ hk_ => (Kd.freshB (g := gb328) (o := .cells #[.bool t324, .slice Ao77 t325.length co77] 26 (0, 0)) (by (with_reducible repeat (first | refine k1_ ?_ _ | refine k2_ ?_ | refine k3_ ?_ _)); exact BK328.out) k_ hk_))) (below_size (by repeat (first | (with_reducible first | exact HB.out | apply b1_ | apply b2_ | apply b3_ | refine b4_ ?_ GE328.out) | exact HB.out))))
       have n3_ := a0_ (blk_below (g := gb328) (o := .cells #[.bool t324, .slice Ao77 t325.length co77] 26 (0, 0)) (by (with_reducible repeat (first | refine k1_ ?_ _ | refine k2_ ?_ | refine k3_ ?_ _)); exact BK328.out) hb)
       have n4_ := a0_ (below_step (by repeat (first | (with_reducible first | exact HB.out | apply b1_ | apply b2_ | apply b3_ | refine b4_ ?_ GE328.out) | exact HB.out)) hb)
       clear HO327
       clear HO332
       clear BK328
       clear HB
       have HO327 := n0_
       have HO332 := n1_
       have HO336 := n2_
       have BK328 := n3_
       have HB := n4_
       clear n0_ n1_ n2_ n3_ n4_
       (try clear hb)
       (try clear hb2)
       (try clear hk)
       (try clear hi)
       (try clear ho0)
       obtain ⟨Ao84, co84, eo84⟩ := Kd.V_slice HO336.out
       (first | subst eo84 | (injection eo84 with f1_ f2_ f3_; have f4_ := f1_.symm; have f5_ := f3_.symm; clear f1_ f2_ f3_; subst f4_; subst f5_))
       refine hK.out _ _ ⟨(blk_cell BK328.out 0).trans rfl, (blk_cell BK328.out 1).trans rfl⟩ (fun hHeld => ?_)
       clear hK K
       refine norm_ (a' := ?_) ?_ ?_
       rotate_left
       ·
        show Act.put _ (some 48) _ = _
        simp only [Act.put, s1_, s2_, s3_, i64_w, i32_w]
        rfl
       refine last_ (i := 7) (N := none) #[true, true, true, true, true, true, true, true] rfl rfl (one_of HT_.out (by kernel_rfl)) (by decide) (fun K hK => ?_)
       have hs83 : w82.cell? ⟨gb328, 0, none⟩ = some (.bool t324) := (blk_cell BK328.out 0).trans rfl
       have hfs83 := blk_frozen BK328.out 0
       have hs85 : w82.cell? ⟨gb328, 1, none⟩ = some (.slice Ao77 t325.length co77) := (blk_cell BK328.out 1).trans rfl
       have hfs85 := blk_frozen BK328.out 1
       refine skip_ (w1 := ?_) (by rfl) rfl ?_ ?_
       rotate_left
       ·
        go_simp
        rfl
       refine hK.out _ _ ?_
       clear hK K
       refine done_ (done_of HT_.out (by kernel_rfl)) ?_
       have n0_ : Aside0 (Kd.V (Kd.int .u32) 40 ((w82.setCell ⟨gb328, 0, none⟩ (.bool t333)).setCell ⟨gb328, 1, none⟩ (.slice Ao84 t334.length co84)) w.heap.size (fun k_ => k_ ≠ gb328) (.slice Ao77 t325.length co77) t325) := ⟨by (with_reducible repeat (first | apply v1_ | apply v2_ | apply v3_)); exact v4_ (v5_ (p := ⟨gb328, 1, none⟩) (v5_ (p := ⟨gb328, 0, none⟩) (v4_ HO327.out (fun k_ hk => (⟨hk, hk⟩ : _ ∧ k_ ≠ gb328))) (fun _ hk => hk.2) (.bool t333)) (fun _ hk => hk.2) (.slice Ao84 t334.length co84)) (fun _ hk => hk.1)⟩
       have n1_ : Aside0 (Kd.V (Kd.int .u32) 40 ((w82.setCell ⟨gb328, 0, none⟩ (.bool t333)).setCell ⟨gb328, 1, none⟩ (.slice Ao84 t334.length co84)) w.heap.size (fun k_ => k_ ≠ gb328) (.slice Ao81 t330.length co81) t330) := ⟨by (with_reducible repeat (first | apply v1_ | apply v2_ | apply v3_)); exact v4_ (v5_ (p := ⟨gb328, 1, none⟩) (v5_ (p := ⟨gb328, 0, none⟩) (v4_ HO332.out (fun k_ hk => (⟨hk, hk⟩ : _ ∧ k_ ≠ gb328))) (fun _ hk => hk.2) (.bool t333)) (fun _ hk => hk.2) (.slice Ao84 t334.length co84)) (fun _ hk => hk.1)⟩
       have n2_ : Aside0 (Kd.V (Kd.int .u32) 40 ((w82.setCell ⟨gb328, 0, none⟩ (.bool t333)).setCell ⟨gb328, 1, none⟩ (.slice Ao84 t334.length co84)) w.heap.size (fun k_ => k_ ≠ gb328) (.slice Ao84 t334.length co84) t334) := ⟨by (with_reducible repeat (first | apply v1_ | apply v2_ | apply v3_)); exact v4_ (v5_ (p := ⟨gb328, 1, none⟩) (v5_ (p := ⟨gb328, 0, none⟩) (v4_ HO336.out (fun k_ hk => (⟨hk, hk⟩ : _ ∧ k_ ≠ gb328))) (fun _ hk => hk.2) (.bool t333)) (fun _ hk => hk.2) (.slice Ao84 t334.length co84)) (fun _ hk => hk.1)⟩
       have n3_ : Aside0 (((w82.setCell ⟨gb328, 0, none⟩ (.bool t333)).setCell ⟨gb328, 1, none⟩ (.slice Ao84 t334.length co84)).heap[gb328]? = some (.cells #[.bool t333, .slice Ao84 t334.length co84] 26 (0, 0))) := ⟨by (with_reducible repeat (first | refine k1_ ?_ _ | refine k2_ ?_ | refine k3_ ?_ _)); refine blk_put (cs := #[.bool t333, .slice Ao77 t325.length co77]) ?_ 1 _ rfl; (with_reducible repeat (first | refine k1_ ?_ _ | refine k2_ ?_ | refine k3_ ?_ _)); refine blk_put (cs := #[.bool t324, .slice Ao77 t325.length co77]) ?_ 0 _ rfl; (with_reducible repeat (first | refine k1_ ?_ _ | refine k2_ ?_ | refine k3_ ?_ _)); exact BK328.out⟩
       have n4_ : Aside0 (Below w.heap.size w ((w82.setCell ⟨gb328, 0, none⟩ (.bool t333)).setCell ⟨gb328, 1, none⟩ (.slice Ao84 t334.length co84))) := ⟨by repeat (first | (with_reducible first | exact HB.out | apply b1_ | apply b2_ | apply b3_ | refine b4_ ?_ GE328.out) | exact HB.out)⟩
       (try clear HO327)
       (try clear HO332)
       (try clear HO336)
       (try clear BK328)
       (try clear HB)
       generalize ((w82.setCell ⟨gb328, 0, none⟩ (.bool t333)).setCell ⟨gb328, 1, none⟩ (.slice Ao84 t334.length co84)) = w86 at n0_ n1_ n2_ n3_ n4_ ⊢
       have HO327 := n0_
       have HO332 := n1_
       have HO336 := n2_
       have BK328 := n3_
       have HB := n4_
       clear n0_ n1_ n2_ n3_ n4_
       have hcz87_0 : w86.cell? ⟨gb328, 0, none⟩ = some (.bool t333) := (blk_cell BK328.out 0).trans rfl
       have hcz87_1 : w86.cell? ⟨gb328, 1, none⟩ = some (.slice Ao84 t334.length co84) := (blk_cell BK328.out 1).trans rfl
       have hfz87_0 := blk_frozen BK328.out 0
       have hfz87_1 := blk_frozen BK328.out 1
       try go_wp2_with (first | ((with_reducible refine gate_callee (f := 9) rfl ?_); refine goesL_ (some 61) rfl rfl Tryd.func9 (by kernel_rfl) rfl #[.agg #[.bool t333, .slice Ao84 t334.length co84], .int .i64 1] rfl (by (try simp only [List.map_toArray, List.map_cons, List.map_nil]); first | done | rfl | (simp only [List.length_drop, List.length_take]; rfl)) ?_; (with_reducible refine (spec_ToWords.calls kj4 t333 (fun k_ => k_ ≠ gb328) _ _ t334 1 t337 true _ ?side1 A16.out).mono ?_); (case side1 => exact HO336.out); rintro e w88 ⟨v338, rfl, ho0, hb⟩; refine ⟨_, rfl, ?_⟩; have n0_ := a0_ (Kd.V_elder' (by (with_reducible repeat (first | apply v1_ | apply v2_ | apply v3_)); exact HO327.out) (Kd.R_base ho0) hb); have n1_ := a0_ (Kd.V_elder' (by (with_reducible repeat (first | apply v1_ | apply v2_ | apply v3_)); exact HO332.out) (Kd.R_base ho0) hb); have n2_ := a0_ (Kd.V_elder' (by (with_reducible repeat (first | apply v1_ | apply v2_ | apply v3_)); exact HO336.out) (Kd.R_base ho0) hb); have n3_ := a0_ (Kd.R_lower (Kd.R_mono (ok' := fun k_ => True) ho0 (fun _ hk_ => trivial)) (below_size (by repeat (first | (with_reducible first | exact HB.out | apply b1_ | apply b2_ | apply b3_ | refine b4_ ?_ GE328.out) | exact HB.out)))); have n4_ := a0_ (blk_below (g := gb328) (o := .cells #[.bool t333, .slice Ao84 t334.length co84] 26 (0, 0)) (by (with_reducible repeat (first | refine k1_ ?_ _ | refine k2_ ?_ | refine k3_ ?_ _)); exact BK328.out) hb); have n5_ := a0_ (below_step (by repeat (first | (with_reducible first | exact HB.out | apply b1_ | apply b2_ | apply b3_ | refine b4_ ?_ GE328.out) | exact HB.out)) hb); clear HO327; clear HO332; clear HO336; clear BK328; clear HB; have HO327 := n0_; have HO332 := n1_; have HO336 := n2_; have HO339 := n3_; have BK328 := n4_; have HB := n5_; clear n0_ n1_ n2_ n3_ n4_ n5_; (try clear hb); (try clear hb2); (try clear hk); (try clear hi); (try clear ho0)) | ((with_reducible refine gate_callee (f := 4) rfl ?_); refine goesL_ (some 68) rfl rfl Tryd.func4 (by kernel_rfl) rfl #[.int .i64 a0, .int .i64 a1, .int .i64 a2] rfl (by (try simp only [List.map_toArray, List.map_cons, List.map_nil]); first | done | rfl | (simp only [List.length_drop, List.length_take]; rfl)) ?_; (with_reducible refine (impl_UnitConvert.calls a0 a1 a2 t341 false _ A17.out (HTAB.out.below (by repeat (first | (with_reducible first | exact HB.out | apply b1_ | apply b2_ | apply b3_ | refine b4_ ?_ GE328.out) | exact HB.out)))).mono ?_); rintro e w89 ⟨rfl, hb⟩; refine ⟨_, rfl, ?_⟩; have n0_ := a0_ (Kd.V_below (by (with_reducible repeat (first | apply v1_ | apply v2_ | apply v3_)); exact HO327.out) hb); have n1_ := a0_ (Kd.V_below (by (with_reducible repeat (first | apply v1_ | apply v2_ | apply v3_)); exact HO332.out) hb); have n2_ := a0_ (Kd.V_below (by (with_reducible repeat (first | apply v1_ | apply v2_ | apply v3_)); exact HO336.out) hb); have n3_ := a0_ (Kd.R_below (by (with_reducible repeat (first | apply r1_ | apply r2_ | apply r3_)); exact HO339.out) hb); have n4_ := a0_ (blk_below (g := gb328) (o := .cells #[.bool t333, .slice Ao84 t334.length co84] 26 (0, 0)) (by (with_reducible repeat (first | refine k1_ ?_ _ | refine k2_ ?_ | refine k3_ ?_ _)); exact BK328.out) hb); have n5_ := a0_ (below_step (by repeat (first | (with_reducible first | exact HB.out | apply b1_ | apply b2_ | apply b3_ | refine b4_ ?_ GE328.out) | exact HB.out)) hb); clear HO327; clear HO332; clear HO336; clear HO339; clear BK328; clear HB; have HO327 := n0_; have HO332 := n1_; have HO336 := n2_; have HO339 := n3_; have BK328 := n4_; have HB := n5_; clear n0_ n1_ n2_ n3_ n4_ n5_; (try clear hb); (try clear hb2); (try clear hk); (try clear hi)))
       go_ret
       exact ⟨by first | rfl | (simp [e1_, e2_] <;> rfl) | (simp [*, e1_, e2_] <;> rfl), by repeat (first | (with_reducible first | exact HB.out | apply b1_ | apply b2_ | apply b3_ | refine b4_ ?_ GE328.out) | exact HB.out)⟩
     ·
      replace c18 := Bool.eq_false_iff.mpr c18
      subst c18
      have H1 : (if t322 = 1000 then (some t323) else (some false)) = some r := by rw [if_neg (show ¬ (false = true) by decide)] at H; exact H
      clear H
      have H := H1
      clear H1
      by_cases c90 : t322 = 1000
      ·
       rw [if_pos c90] at H
       have c90b0 : (t322 == 1000) = true := beq_iff_eq.mpr c90
       have c90b1 : (t322 != 1000) = false := bne_eq_false_iff_eq.mpr c90
       clear c90
       obtain rfl := o1_ H
       try go_wp2_with (first | ((with_reducible refine gate_callee (f := 5) rfl ?_); refine goesL_ (some 38) rfl rfl Tryd.func5 (by kernel_rfl) rfl #[.int .i64 a2] rfl (by (try simp only [List.map_toArray, List.map_cons, List.map_nil]); first | done | rfl | (simp only [List.length_drop, List.length_take]; rfl)) ?_; (with_reducible refine (spec_WideInt.calls kj4 a2 t324 t325 _ A12.out).mono ?_); rintro e w91 ⟨v326, rfl, ho0, hb⟩; refine ⟨_, rfl, ?_⟩; have n0_ := a0_ (Kd.V_lower (v4_ (ok' := fun k_ => True) ho0 (fun k_ hk_ => trivial)) (below_size (by repeat (first | (with_reducible first | exact HB.out | apply b1_ | apply b2_ | apply b3_) | exact HB.out)))); have n1_ := a0_ (below_step (by repeat (first | (with_reducible first | exact HB.out | apply b1_ | apply b2_ | apply b3_) | exact HB.out)) hb); clear HB; have HO327 := n0_; have HB := n1_; clear n0_ n1_; (try clear hb); (try clear hb2); (try clear hk); (try clear hi); (try clear ho0)) | ((with_reducible refine gate_dst (N := 9) rfl ?_); refine box_event ?hg (N := 9) ?hd (cs := #[.bool false, .slice none 0 0]) (t := 26) ?hr ?_; (case hd => rfl); (case hg => rfl); (case hr => first | (go_simp; done) | (go_simp; rfl)); intro gb328 hg w92 hbox hb; have n0_ := a0_ (Kd.V_below (Kd.V_elderB (by (with_reducible repeat (first | apply v1_ | apply v2_ | apply v3_)); exact HO327.out) gb328 (Nat.le_of_eq hg.symm)) hb); have n1_ := a0_ (below_step (by repeat (first | (with_reducible first | exact HB.out | apply b1_ | apply b2_ | apply b3_) | exact HB.out)) hb); have n2_ := a0_ (hbox); have n3_ := a0_ ((by rw [hg]; exact (below_size (by repeat (first | (with_reducible first | exact HB.out | apply b1_ | apply b2_ | apply b3_) | exact HB.out))) : w.heap.size ≤ gb328)); have n4_ := a0_ ((by rw [hg]; exact (below_size (by repeat (first | (with_reducible first | exact HB.out | apply b1_ | apply b2_ | apply b3_) | exact HB.out))) : w.heap.size ≤ gb328)); clear HO327; clear HB; have HO327 := n0_; have HB := n1_; have BK328 := n2_; have GW328 := n3_; have GE328 := n4_; clear n0_ n1_ n2_ n3_ n4_; clear hb hbox hg; have hcz93_0 : w92.cell? ⟨gb328, 0, none⟩ = some (.bool false) := (blk_cell BK328.out 0).trans rfl; have hcz93_1 : w92.cell? ⟨gb328, 1, none⟩ = some (.slice none 0 0) := (blk_cell BK328.out 1).trans rfl; have hfz93_0 := blk_frozen BK328.out 0; have hfz93_1 := blk_frozen BK328.out 1; obtain ⟨Ao94, co94, eo94⟩ := Kd.V_slice HO327.out; subst eo94))
       have n0_ : Aside0 (Kd.V (Kd.int .u32) 40 ((w92.setCell ⟨gb328, 0, none⟩ (.bool t324)).setCell ⟨gb328, 1, none⟩ (.slice Ao94 t325.length co94)) w.heap.size (fun k_ => k_ ≠ gb328) (.slice Ao94 t325.length co94) t325) := ⟨by (with_reducible repeat (first | apply v1_ | apply v2_ | apply v3_)); exact v4_ (v5_ (p := ⟨gb328, 1, none⟩) (v5_ (p := ⟨gb328, 0, none⟩) (v4_ HO327.out (fun k_ hk => (⟨hk, hk.2⟩ : _ ∧ k_ ≠ gb328))) (fun _ hk => hk.2) (.bool t324)) (fun _ hk => hk.2) (.slice Ao94 t325.length co94)) (fun _ hk => hk.1.2)⟩
       have n1_ : Aside0 (((w92.setCell ⟨gb328, 0, none⟩ (.bool t324)).setCell ⟨gb328, 1, none⟩ (.slice Ao94 t325.length co94)).heap[gb328]? = some (.cells #[.bool t324, .slice Ao94 t325.length co94] 26 (0, 0))) := ⟨by (with_reducible repeat (first | refine k1_ ?_ _ | refine k2_ ?_ | refine k3_ ?_ _)); refine blk_put (cs := #[.bool t324, .slice none 0 0]) ?_ 1 _ rfl; (with_reducible repeat (first | refine k1_ ?_ _ | refine k2_ ?_ | refine k3_ ?_ _)); refine blk_put (cs := #[.bool false, .slice none 0 0]) ?_ 0 _ rfl; (with_reducible repeat (first | refine k1_ ?_ _ | refine k2_ ?_ | refine k3_ ?_ _)); exact BK328.out⟩
       have n2_ : Aside0 (Below w.heap.size w ((w92.setCell ⟨gb328, 0, none⟩ (.bool t324)).setCell ⟨gb328, 1, none⟩ (.slice Ao94 t325.length co94))) := ⟨by repeat (first | (with_reducible first | exact HB.out | apply b1_ | apply b2_ | apply b3_ | refine b4_ ?_ GE328.out) | exact HB.out)⟩
       (try clear HO327)
       (try clear BK328)
       (try clear HB)
       generalize ((w92.setCell ⟨gb328, 0, none⟩ (.bool t324)).setCell ⟨gb328, 1, none⟩ (.slice Ao94 t325.length co94)) = w95 at n0_ n1_ n2_ ⊢
       have HO327 := n0_
       have BK328 := n1_
       have HB := n2_
       clear n0_ n1_ n2_
       have n0_ := a0_ (v3_ HO327.out)
       have n1_ := a0_ (k2_ BK328.out)
       have n2_ := a0_ (b3_ HB.out)
       clear HO327
       clear BK328
       clear HB
       have HO327 := n0_
       have BK328 := n1_
       have HB := n2_
       clear n0_ n1_ n2_
       refine start_ (n := 8) (S := fun w' => w'.cell? ⟨gb328, 0, none⟩ = some (.bool t324) ∧ w'.cell? ⟨gb328, 1, none⟩ = some (.slice Ao94 t325.length co94)) (ds := [7]) #[false, false, false, false, false, false, false, false] (by kernel_rfl) rfl rfl ⟨(blk_cell BK328.out 0).trans rfl, (blk_cell BK328.out 1).trans rfl⟩ (fun hHeld => ?_); refine with_tabW laws_FnUnitConvert.tab6 laws_FnUnitConvert.bits6 (fun HT_ HW_ => ?_)
       generalize w95.drew = w96 at HO327 BK328 HB hHeld ⊢
       refine pure_ (i := 1) (N := some 43) (v := ?_) (a' := ?_) #[false, true, false, false, false, false, false, false] rfl rfl (any_of HT_.out (by kernel_rfl)) (fun _ _ _ h => h) (Or.inl ⟨by rfl, ?_⟩) ?_ ?_
       rotate_left
       ·
        intro w'
        go_simp
        with_reducible rfl
       rotate_left
       ·
        simp only [Act.put, s1_, s2_, s3_, i64_w, i32_w]
        rfl
       refine pure_ (i := 2) (N := some 44) (v := ?_) (a' := ?_) #[false, true, true, false, false, false, false, false] rfl rfl (any_of HT_.out (by kernel_rfl)) (fun _ _ _ h => h) (Or.inl ⟨by rfl, ?_⟩) ?_ ?_
       rotate_left
       ·
        intro w'
        go_simp
        with_reducible rfl
       rotate_left
       ·
        simp only [Act.put, s1_, s2_, s3_, i64_w, i32_w]
        rfl
       refine pure_ (i := 3) (N := some 45) (v := ?_) (a' := ?_) #[false, true, true, true, false, false, false, false] rfl rfl (any_of HT_.out (by kernel_rfl)) (fun _ _ _ h => h) (Or.inl ⟨by rfl, ?_⟩) ?_ ?_
       rotate_left
       ·
        intro w'
        go_simp
        with_reducible rfl
       rotate_left
       ·
        simp only [Act.put, s1_, s2_, s3_, i64_w, i32_w]
        rfl
       refine pure_ (i := 4) (N := some 46) (v := ?_) (a' := ?_) #[false, true, true, true, true, false, false, false] rfl rfl (any_of HT_.out (by kernel_rfl)) (fun _ _ _ h => h) (Or.inl ⟨by rfl, ?_⟩) ?_ ?_
       rotate_left
       ·
        intro w'
        go_simp
        with_reducible rfl
       rotate_left
       ·
        simp only [Act.put, s1_, s2_, s3_, i64_w, i32_w]
        rfl
       refine take_ (i := 0) (N := some 42) (v := ?_) (a' := ?_) #[true, true, true, true, true, false, false, false] rfl rfl (take_ofW HT_.out HW_.out (by kernel_rfl)) (fun _ _ _ h => h) (Or.inl ⟨by rfl, ?_⟩) hHeld ?_ ?_
       rotate_left
       ·
        rintro w' ⟨s0, s1⟩
        go_simp
        with_reducible rfl
       rotate_left
       ·
        simp only [Act.put, s1_, s2_, s3_, i64_w, i32_w]
        rfl
       refine one_ (i := 5) (N := some 47) #[true, true, true, true, true, true, false, false] rfl rfl (one_of HT_.out (by kernel_rfl)) (by decide) (fun K hK => ?_)
       refine goes_ Tryd.func7 (by kernel_rfl) rfl #[.int .i64 (wrap64 (3 * (wrap64 (a1 - a0))))] (by rfl) rfl rfl (by (try simp only [List.map_toArray, List.map_cons, List.map_nil]); first | done | rfl | (simp only [List.length_drop, List.length_take]; rfl)) ?_
       with_reducible refine (spec_Ten.calls kj4 (wrap64 (3 * (wrap64 (a1 - a0)))) t329 t330 _ A14.out).mono ?_
       rintro e w97 ⟨v331, rfl, ho0, hb⟩
       refine ⟨_, rfl, ?_⟩
       have n0_ := a0_ (Kd.V_below (by (with_reducible repeat (first | apply v1_ | apply v2_ | apply v3_)); exact HO327.out) hb)
       have n1_ := a0_ (Kd.V_lower (v4_ (ok' := fun k_ => k_ ≠ gb328) ho0 (fun k_ hk_ => (Kd.freshB (g := gb328) (o := .cells #[.bool t324, .slice Ao94 t325.length co94] 26 (0, 0)) (by (with_reducible repeat (first | refine k1_ ?_ _ | refine k2_ ?_ | refine k3_ ?_ _)); exact BK328.out) k_ hk_))) (below_size (by repeat (first | (with_reducible first | exact HB.out | apply b1_ | apply b2_ | apply b3_ | refine b4_ ?_ GE328.out) | exact HB.out))))
       have n2_ := a0_ (blk_below (g := gb328) (o := .cells #[.bool t324, .slice Ao94 t325.length co94] 26 (0, 0)) (by (with_reducible repeat (first | refine k1_ ?_ _ | refine k2_ ?_ | refine k3_ ?_ _)); exact BK328.out) hb)
       have n3_ := a0_ (below_step (by repeat (first | (with_reducible first | exact HB.out | apply b1_ | apply b2_ | apply b3_ | refine b4_ ?_ GE328.out) | exact HB.out)) hb)
       clear HO327
       clear BK328
       clear HB
       have HO327 := n0_
       have HO332 := n1_
       have BK328 := n2_
       have HB := n3_
       clear n0_ n1_ n2_ n3_
       (try clear hb)
       (try clear hb2)
       (try clear hk)
       (try clear hi)
       (try clear ho0)
       obtain ⟨Ao98, co98, eo98⟩ := Kd.V_slice HO332.out
       (first | subst eo98 | (injection eo98 with f1_ f2_ f3_; have f4_ := f1_.symm; have f5_ := f3_.symm; clear f1_ f2_ f3_; subst f4_; subst f5_))
       refine hK.out _ _ ⟨(blk_cell BK328.out 0).trans rfl, (blk_cell BK328.out 1).trans rfl⟩ (fun hHeld => ?_)
       clear hK K
       refine norm_ (a' := ?_) ?_ ?_
       rotate_left
       ·
        show Act.put _ (some 47) _ = _
        simp only [Act.put, s1_, s2_, s3_, i64_w, i32_w]
        rfl
       refine one_ (i := 6) (N := some 48) #[true, true, true, true, true, true, true, false] rfl rfl (one_of HT_.out (by kernel_rfl)) (by decide) (fun K hK => ?_)
       refine goes_ Tryd.func6 (by kernel_rfl) rfl #[.agg #[.bool t324, .slice Ao94 t325.length co94], .agg #[.bool t329, .slice Ao98 t330.length co98]] (by rfl) rfl rfl (by (try simp only [List.map_toArray, List.map_cons, List.map_nil]); first | done | rfl | (simp only [List.length_drop, List.length_take]; rfl)) ?_
       with_reducible refine (spec_WideMul.calls kj4 t324 _ _ t325 t329 _ _ t330 t333 t334 _ ?side1 ?side2 ?side3 ?side4 A15.out).mono ?_
       (case side1 => repeat (first | exact (Kd.V_reads' HO327.out).2.2 | (with_reducible refine Kd.C_alloc ?_ _) | (with_reducible refine Kd.C_drewN ?_ _) | (with_reducible refine Kd.C_drew ?_)))
       (case side2 => exact (Kd.V_reads' HO327.out).2.1)
       (case side3 => repeat (first | exact (Kd.V_reads' HO332.out).2.2 | (with_reducible refine Kd.C_alloc ?_ _) | (with_reducible refine Kd.C_drewN ?_ _) | (with_reducible refine Kd.C_drew ?_)))
       (case side4 => exact (Kd.V_reads' HO332.out).2.1)
       rintro e w99 ⟨v335, rfl, ho0, hb⟩
       refine ⟨_, rfl, ?_⟩
       have n0_ := a0_ (Kd.V_below (by (with_reducible repeat (first | apply v1_ | apply v2_ | apply v3_)); exact HO327.out) hb)
       have n1_ := a0_ (Kd.V_below (by (with_reducible repeat (first | apply v1_ | apply v2_ | apply v3_)); exact HO332.out) hb)
       have n2_ := a0_ (Kd.V_lower (v4_ (ok' := fun k_ => k_ ≠ gb328) ho0 (fun k_ hk_ => (Kd.freshB (g := gb328) (o := .cells #[.bool t324, .slice Ao94 t325.length co94] 26 (0, 0)) (by (with_reducible repeat (first | refine k1_ ?_ _ | refine k2_ ?_ | refine k3_ ?_ _)); exact BK328.out) k_ hk_))) (below_size (by repeat (first | (with_reducible first | exact HB.out | apply b1_ | apply b2_ | apply b3_ | refine b4_ ?_ GE328.out) | exact HB.out))))
       have n3_ := a0_ (blk_below (g := gb328) (o := .cells #[.bool t324, .slice Ao94 t325.length co94] 26 (0, 0)) (by (with_reducible repeat (first | refine k1_ ?_ _ | refine k2_ ?_ | refine k3_ ?_ _)); exact BK328.out) hb)
       have n4_ := a0_ (below_step (by repeat (first | (with_reducible first | exact HB.out | apply b1_ | apply b2_ | apply b3_ | refine b4_ ?_ GE328.out) | exact HB.out)) hb)
       clear HO327
       clear HO332
       clear BK328
       clear HB
       have HO327 := n0_
       have HO332 := n1_
       have HO336 := n2_
       have BK328 := n3_
       have HB := n4_
       clear n0_ n1_ n2_ n3_ n4_
       (try clear hb)
       (try clear hb2)
       (try clear hk)
       (try clear hi)
       (try clear ho0)
       obtain ⟨Ao101, co101, eo101⟩ := Kd.V_slice HO336.out
       (first | subst eo101 | (injection eo101 with f1_ f2_ f3_; have f4_ := f1_.symm; have f5_ := f3_.symm; clear f1_ f2_ f3_; subst f4_; subst f5_))
       refine hK.out _ _ ⟨(blk_cell BK328.out 0).trans rfl, (blk_cell BK328.out 1).trans rfl⟩ (fun hHeld => ?_)
       clear hK K
       refine norm_ (a' := ?_) ?_ ?_
       rotate_left
       ·
        show Act.put _ (some 48) _ = _
        simp only [Act.put, s1_, s2_, s3_, i64_w, i32_w]
        rfl
       refine last_ (i := 7) (N := none) #[true, true, true, true, true, true, true, true] rfl rfl (one_of HT_.out (by kernel_rfl)) (by decide) (fun K hK => ?_)
       have hs100 : w99.cell? ⟨gb328, 0, none⟩ = some (.bool t324) := (blk_cell BK328.out 0).trans rfl
       have hfs100 := blk_frozen BK328.out 0
       have hs102 : w99.cell? ⟨gb328, 1, none⟩ = some (.slice Ao94 t325.length co94) := (blk_cell BK328.out 1).trans rfl
       have hfs102 := blk_frozen BK328.out 1
       refine skip_ (w1 := ?_) (by rfl) rfl ?_ ?_
       rotate_left
       ·
        go_simp
        rfl
       refine hK.out _ _ ?_
       clear hK K
       refine done_ (done_of HT_.out (by kernel_rfl)) ?_
       have n0_ : Aside0 (Kd.V (Kd.int .u32) 40 ((w99.setCell ⟨gb328, 0, none⟩ (.bool t333)).setCell ⟨gb328, 1, none⟩ (.slice Ao101 t334.length co101)) w.heap.size (fun k_ => k_ ≠ gb328) (.slice Ao94 t325.length co94) t325) := ⟨by (with_reducible repeat (first | apply v1_ | apply v2_ | apply v3_)); exact v4_ (v5_ (p := ⟨gb328, 1, none⟩) (v5_ (p := ⟨gb328, 0, none⟩) (v4_ HO327.out (fun k_ hk => (⟨hk, hk⟩ : _ ∧ k_ ≠ gb328))) (fun _ hk => hk.2) (.bool t333)) (fun _ hk => hk.2) (.slice Ao101 t334.length co101)) (fun _ hk => hk.1)⟩
       have n1_ : Aside0 (Kd.V (Kd.int .u32) 40 ((w99.setCell ⟨gb328, 0, none⟩ (.bool t333)).setCell ⟨gb328, 1, none⟩ (.slice Ao101 t334.length co101)) w.heap.size (fun k_ => k_ ≠ gb328) (.slice Ao98 t330.length co98) t330) := ⟨by (with_reducible repeat (first | apply v1_ | apply v2_ | apply v3_)); exact v4_ (v5_ (p := ⟨gb328, 1, none⟩) (v5_ (p := ⟨gb328, 0, none⟩) (v4_ HO332.out (fun k_ hk => (⟨hk, hk⟩ : _ ∧ k_ ≠ gb328))) (fun _ hk => hk.2) (.bool t333)) (fun _ hk => hk.2) (.slice Ao101 t334.length co101)) (fun _ hk => hk.1)⟩
       have n2_ : Aside0 (Kd.V (Kd.int .u32) 40 ((w99.setCell ⟨gb328, 0, none⟩ (.bool t333)).setCell ⟨gb328, 1, none⟩ (.slice Ao101 t334.length co101)) w.heap.size (fun k_ => k_ ≠ gb328) (.slice Ao101 t334.length co101) t334) := ⟨by (with_reducible repeat (first | apply v1_ | apply v2_ | apply v3_)); exact v4_ (v5_ (p := ⟨gb328, 1, none⟩) (v5_ (p := ⟨gb328, 0, none⟩) (v4_ HO336.out (fun k_ hk => (⟨hk, hk⟩ : _ ∧ k_ ≠ gb328))) (fun _ hk => hk.2) (.bool t333)) (fun _ hk => hk.2) (.slice Ao101 t334.length co101)) (fun _ hk => hk.1)⟩
       have n3_ : Aside0 (((w99.setCell ⟨gb328, 0, none⟩ (.bool t333)).setCell ⟨gb328, 1, none⟩ (.slice Ao101 t334.length co101)).heap[gb328]? = some (.cells #[.bool t333, .slice Ao101 t334.length co101] 26 (0, 0))) := ⟨by (with_reducible repeat (first | refine k1_ ?_ _ | refine k2_ ?_ | refine k3_ ?_ _)); refine blk_put (cs := #[.bool t333, .slice Ao94 t325.length co94]) ?_ 1 _ rfl; (with_reducible repeat (first | refine k1_ ?_ _ | refine k2_ ?_ | refine k3_ ?_ _)); refine blk_put (cs := #[.bool t324, .slice Ao94 t325.length co94]) ?_ 0 _ rfl; (with_reducible repeat (first | refine k1_ ?_ _ | refine k2_ ?_ | refine k3_ ?_ _)); exact BK328.out⟩
       have n4_ : Aside0 (Below w.heap.size w ((w99.setCell ⟨gb328, 0, none⟩ (.bool t333)).setCell ⟨gb328, 1, none⟩ (.slice Ao101 t334.length co101))) := ⟨by repeat (first | (with_reducible first | exact HB.out | apply b1_ | apply b2_ | apply b3_ | refine b4_ ?_ GE328.out) | exact HB.out)⟩
       (try clear HO327)
       (try clear HO332)
       (try clear HO336)
       (try clear BK328)
       (try clear HB)
       generalize ((w99.setCell ⟨gb328, 0, none⟩ (.bool t333)).setCell ⟨gb328, 1, none⟩ (.slice Ao101 t334.length co101)) = w103 at n0_ n1_ n2_ n3_ n4_ ⊢
       have HO327 := n0_
       have HO332 := n1_
       have HO336 := n2_
       have BK328 := n3_
       have HB := n4_
       clear n0_ n1_ n2_ n3_ n4_
       have hcz104_0 : w103.cell? ⟨gb328, 0, none⟩ = some (.bool t333) := (blk_cell BK328.out 0).trans rfl
       have hcz104_1 : w103.cell? ⟨gb328, 1, none⟩ = some (.slice Ao101 t334.length co101) := (blk_cell BK328.out 1).trans rfl
       have hfz104_0 := blk_frozen BK328.out 0
       have hfz104_1 := blk_frozen BK328.out 1
       try go_wp2_with (first | ((with_reducible refine gate_callee (f := 9) rfl ?_); refine goesL_ (some 61) rfl rfl Tryd.func9 (by kernel_rfl) rfl #[.agg #[.bool t333, .slice Ao101 t334.length co101], .int .i64 1] rfl (by (try simp only [List.map_toArray, List.map_cons, List.map_nil]); first | done | rfl | (simp only [List.length_drop, List.length_take]; rfl)) ?_; (with_reducible refine (spec_ToWords.calls kj4 t333 (fun k_ => k_ ≠ gb328) _ _ t334 1 t337 false _ ?side1 A16.out).mono ?_); (case side1 => exact HO336.out); rintro e w105 ⟨v338, rfl, ho0, hb⟩; refine ⟨_, rfl, ?_⟩; have n0_ := a0_ (Kd.V_elder' (by (with_reducible repeat (first | apply v1_ | apply v2_ | apply v3_)); exact HO327.out) (Kd.R_base ho0) hb); have n1_ := a0_ (Kd.V_elder' (by (with_reducible repeat (first | apply v1_ | apply v2_ | apply v3_)); exact HO332.out) (Kd.R_base ho0) hb); have n2_ := a0_ (Kd.V_elder' (by (with_reducible repeat (first | apply v1_ | apply v2_ | apply v3_)); exact HO336.out) (Kd.R_base ho0) hb); have n3_ := a0_ (Kd.R_lower (Kd.R_mono (ok' := fun k_ => True) ho0 (fun _ hk_ => trivial)) (below_size (by repeat (first | (with_reducible first | exact HB.out | apply b1_ | apply b2_ | apply b3_ | refine b4_ ?_ GE328.out) | exact HB.out)))); have n4_ := a0_ (blk_below (g := gb328) (o := .cells #[.bool t333, .slice Ao101 t334.length co101] 26 (0, 0)) (by (with_reducible repeat (first | refine k1_ ?_ _ | refine k2_ ?_ | refine k3_ ?_ _)); exact BK328.out) hb); have n5_ := a0_ (below_step (by repeat (first | (with_reducible first | exact HB.out | apply b1_ | apply b2_ | apply b3_ | refine b4_ ?_ GE328.out) | exact HB.out)) hb); clear HO327; clear HO332; clear HO336; clear BK328; clear HB; have HO327 := n0_; have HO332 := n1_; have HO336 := n2_; have HO339 := n3_; have BK328 := n4_; have HB := n5_; clear n0_ n1_ n2_ n3_ n4_ n5_; (try clear hb); (try clear hb2); (try clear hk); (try clear hi); (try clear ho0)) | ((with_reducible refine gate_callee (f := 4) rfl ?_); refine goesL_ (some 68) rfl rfl Tryd.func4 (by kernel_rfl) rfl #[.int .i64 a0, .int .i64 a1, .int .i64 a2] rfl (by (try simp only [List.map_toArray, List.map_cons, List.map_nil]); first | done | rfl | (simp only [List.length_drop, List.length_take]; rfl)) ?_; (with_reducible refine (impl_UnitConvert.calls a0 a1 a2 t341 t342 _ A17.out (HTAB.out.below (by repeat (first | (with_reducible first | exact HB.out | apply b1_ | apply b2_ | apply b3_ | refine b4_ ?_ GE328.out) | exact HB.out)))).mono ?_); rintro e w106 ⟨rfl, hb⟩; refine ⟨_, rfl, ?_⟩; have n0_ := a0_ (Kd.V_below (by (with_reducible repeat (first | apply v1_ | apply v2_ | apply v3_)); exact HO327.out) hb); have n1_ := a0_ (Kd.V_below (by (with_reducible repeat (first | apply v1_ | apply v2_ | apply v3_)); exact HO332.out) hb); have n2_ := a0_ (Kd.V_below (by (with_reducible repeat (first | apply v1_ | apply v2_ | apply v3_)); exact HO336.out) hb); have n3_ := a0_ (Kd.R_below (by (with_reducible repeat (first | apply r1_ | apply r2_ | apply r3_)); exact HO339.out) hb); have n4_ := a0_ (blk_below (g := gb328) (o := .cells #[.bool t333, .slice Ao101 t334.length co101] 26 (0, 0)) (by (with_reducible repeat (first | refine k1_ ?_ _ | refine k2_ ?_ | refine k3_ ?_ _)); exact BK328.out) hb); have n5_ := a0_ (below_step (by repeat (first | (with_reducible first | exact HB.out | apply b1_ | apply b2_ | apply b3_ | refine b4_ ?_ GE328.out) | exact HB.out)) hb); clear HO327; clear HO332; clear HO336; clear HO339; clear BK328; clear HB; have HO327 := n0_; have HO332 := n1_; have HO336 := n2_; have HO339 := n3_; have BK328 := n4_; have HB := n5_; clear n0_ n1_ n2_ n3_ n4_ n5_; (try clear hb); (try clear hb2); (try clear hk); (try clear hi)))
       go_ret
       exact ⟨by first | rfl | (simp [e1_, e2_] <;> rfl) | (simp [*, e1_, e2_] <;> rfl), by repeat (first | (with_reducible first | exact HB.out | apply b1_ | apply b2_ | apply b3_ | refine b4_ ?_ GE328.out) | exact HB.out)⟩
      ·
       rw [if_neg c90] at H
       have c90b0 : (t322 == 1000) = false := beq_eq_false_iff_ne.mpr c90
       have c90b1 : (t322 != 1000) = true := bne_iff_ne.mpr c90
       obtain rfl := o1_ H
       try go_wp2_with (first | ((with_reducible refine gate_callee (f := 5) rfl ?_); refine goesL_ (some 38) rfl rfl Tryd.func5 (by kernel_rfl) rfl #[.int .i64 a2] rfl (by (try simp only [List.map_toArray, List.map_cons, List.map_nil]); first | done | rfl | (simp only [List.length_drop, List.length_take]; rfl)) ?_; (with_reducible refine (spec_WideInt.calls kj4 a2 t324 t325 _ A12.out).mono ?_); rintro e w107 ⟨v326, rfl, ho0, hb⟩; refine ⟨_, rfl, ?_⟩; have n0_ := a0_ (Kd.V_lower (v4_ (ok' := fun k_ => True) ho0 (fun k_ hk_ => trivial)) (below_size (by repeat (first | (with_reducible first | exact HB.out | apply b1_ | apply b2_ | apply b3_) | exact HB.out)))); have n1_ := a0_ (below_step (by repeat (first | (with_reducible first | exact HB.out | apply b1_ | apply b2_ | apply b3_) | exact HB.out)) hb); clear HB; have HO327 := n0_; have HB := n1_; clear n0_ n1_; (try clear hb); (try clear hb2); (try clear hk); (try clear hi); (try clear ho0)) | ((with_reducible refine gate_dst (N := 9) rfl ?_); refine box_event ?hg (N := 9) ?hd (cs := #[.bool false, .slice none 0 0]) (t := 26) ?hr ?_; (case hd => rfl); (case hg => rfl); (case hr => first | (go_simp; done) | (go_simp; rfl)); intro gb328 hg w108 hbox hb; have n0_ := a0_ (Kd.V_below (Kd.V_elderB (by (with_reducible repeat (first | apply v1_ | apply v2_ | apply v3_)); exact HO327.out) gb328 (Nat.le_of_eq hg.symm)) hb); have n1_ := a0_ (below_step (by repeat (first | (with_reducible first | exact HB.out | apply b1_ | apply b2_ | apply b3_) | exact HB.out)) hb); have n2_ := a0_ (hbox); have n3_ := a0_ ((by rw [hg]; exact (below_size (by repeat (first | (with_reducible first | exact HB.out | apply b1_ | apply b2_ | apply b3_) | exact HB.out))) : w.heap.size ≤ gb328)); have n4_ := a0_ ((by rw [hg]; exact (below_size (by repeat (first | (with_reducible first | exact HB.out | apply b1_ | apply b2_ | apply b3_) | exact HB.out))) : w.heap.size ≤ gb328)); clear HO327; clear HB; have HO327 := n0_; have HB := n1_; have BK328 := n2_; have GW328 := n3_; have GE328 := n4_; clear n0_ n1_ n2_ n3_ n4_; clear hb hbox hg; have hcz109_0 : w108.cell? ⟨gb328, 0, none⟩ = some (.bool false) := (blk_cell BK328.out 0).trans rfl; have hcz109_1 : w108.cell? ⟨gb328, 1, none⟩ = some (.slice none 0 0) := (blk_cell BK328.out 1).trans rfl; have hfz109_0 := blk_frozen BK328.out 0; have hfz109_1 := blk_frozen BK328.out 1; obtain ⟨Ao110, co110, eo110⟩ := Kd.V_slice HO327.out; subst eo110))
       have n0_ : Aside0 (Kd.V (Kd.int .u32) 40 ((w108.setCell ⟨gb328, 0, none⟩ (.bool t324)).setCell ⟨gb328, 1, none⟩ (.slice Ao110 t325.length co110)) w.heap.size (fun k_ => k_ ≠ gb328) (.slice Ao110 t325.length co110) t325) := ⟨by (with_reducible repeat (first | apply v1_ | apply v2_ | apply v3_)); exact v4_ (v5_ (p := ⟨gb328, 1, none⟩) (v5_ (p := ⟨gb328, 0, none⟩) (v4_ HO327.out (fun k_ hk => (⟨hk, hk.2⟩ : _ ∧ k_ ≠ gb328))) (fun _ hk => hk.2) (.bool t324)) (fun _ hk => hk.2) (.slice Ao110 t325.length co110)) (fun _ hk => hk.1.2)⟩
       have n1_ : Aside0 (((w108.setCell ⟨gb328, 0, none⟩ (.bool t324)).setCell ⟨gb328, 1, none⟩ (.slice Ao110 t325.length co110)).heap[gb328]? = some (.cells #[.bool t324, .slice Ao110 t325.length co110] 26 (0, 0))) := ⟨by (with_reducible repeat (first | refine k1_ ?_ _ | refine k2_ ?_ | refine k3_ ?_ _)); refine blk_put (cs := #[.bool t324, .slice none 0 0]) ?_ 1 _ rfl; (with_reducible repeat (first | refine k1_ ?_ _ | refine k2_ ?_ | refine k3_ ?_ _)); refine blk_put (cs := #[.bool false, .slice none 0 0]) ?_ 0 _ rfl; (with_reducible repeat (first | refine k1_ ?_ _ | refine k2_ ?_ | refine k3_ ?_ _)); exact BK328.out⟩
       have n2_ : Aside0 (Below w.heap.size w ((w108.setCell ⟨gb328, 0, none⟩ (.bool t324)).setCell ⟨gb328, 1, none⟩ (.slice Ao110 t325.length co110))) := ⟨by repeat (first | (with_reducible first | exact HB.out | apply b1_ | apply b2_ | apply b3_ | refine b4_ ?_ GE328.out) | exact HB.out)⟩
       (try clear HO327)
       (try clear BK328)
       (try clear HB)
       generalize ((w108.setCell ⟨gb328, 0, none⟩ (.bool t324)).setCell ⟨gb328, 1, none⟩ (.slice Ao110 t325.length co110)) = w111 at n0_ n1_ n2_ ⊢
       have HO327 := n0_
       have BK328 := n1_
       have HB := n2_
       clear n0_ n1_ n2_
       have n0_ := a0_ (v3_ HO327.out)
       have n1_ := a0_ (k2_ BK328.out)
       have n2_ := a0_ (b3_ HB.out)
       clear HO327
       clear BK328
       clear HB
       have HO327 := n0_
       have BK328 := n1_
       have HB := n2_
       clear n0_ n1_ n2_
       refine start_ (n := 8) (S := fun w' => w'.cell? ⟨gb328, 0, none⟩ = some (.bool t324) ∧ w'.cell? ⟨gb328, 1, none⟩ = some (.slice Ao110 t325.length co110)) (ds := [7]) #[false, false, false, false, false, false, false, false] (by kernel_rfl) rfl rfl ⟨(blk_cell BK328.out 0).trans rfl, (blk_cell BK328.out 1).trans rfl⟩ (fun hHeld => ?_); refine with_tabW laws_FnUnitConvert.tab6 laws_FnUnitConvert.bits6 (fun HT_ HW_ => ?_)
       generalize w111.drew = w112 at HO327 BK328 HB hHeld ⊢
       refine pure_ (i := 1) (N := some 43) (v := ?_) (a' := ?_) #[false, true, false, false, false, false, false, false] rfl rfl (any_of HT_.out (by kernel_rfl)) (fun _ _ _ h => h) (Or.inl ⟨by rfl, ?_⟩) ?_ ?_
       rotate_left
       ·
        intro w'
        go_simp
        with_reducible rfl
       rotate_left
       ·
        simp only [Act.put, s1_, s2_, s3_, i64_w, i32_w]
        rfl
       refine pure_ (i := 2) (N := some 44) (v := ?_) (a' := ?_) #[false, true, true, false, false, false, false, false] rfl rfl (any_of HT_.out (by kernel_rfl)) (fun _ _ _ h => h) (Or.inl ⟨by rfl, ?_⟩) ?_ ?_
       rotate_left
       ·
        intro w'
        go_simp
        with_reducible rfl
       rotate_left
       ·
        simp only [Act.put, s1_, s2_, s3_, i64_w, i32_w]
        rfl
       refine pure_ (i := 3) (N := some 45) (v := ?_) (a' := ?_) #[false, true, true, true, false, false, false, false] rfl rfl (any_of HT_.out (by kernel_rfl)) (fun _ _ _ h => h) (Or.inl ⟨by rfl, ?_⟩) ?_ ?_
       rotate_left
       ·
        intro w'
        go_simp
        with_reducible rfl
       rotate_left
       ·
        simp only [Act.put, s1_, s2_, s3_, i64_w, i32_w]
        rfl
       refine pure_ (i := 4) (N := some 46) (v := ?_) (a' := ?_) #[false, true, true, true, true, false, false, false] rfl rfl (any_of HT_.out (by kernel_rfl)) (fun _ _ _ h => h) (Or.inl ⟨by rfl, ?_⟩) ?_ ?_
       rotate_left
       ·
        intro w'
        go_simp
        with_reducible rfl
       rotate_left
       ·
        simp only [Act.put, s1_, s2_, s3_, i64_w, i32_w]
        rfl
       refine take_ (i := 0) (N := some 42) (v := ?_) (a' := ?_) #[true, true, true, true, true, false, false, false] rfl rfl (take_ofW HT_.out HW_.out (by kernel_rfl)) (fun _ _ _ h => h) (Or.inl ⟨by rfl, ?_⟩) hHeld ?_ ?_
       rotate_left
       ·
        rintro w' ⟨s0, s1⟩
        go_simp
        with_reducible rfl
       rotate_left
       ·
        simp only [Act.put, s1_, s2_, s3_, i64_w, i32_w]
        rfl
       refine one_ (i := 5) (N := some 47) #[true, true, true, true, true, true, false, false] rfl rfl (one_of HT_.out (by kernel_rfl)) (by decide) (fun K hK => ?_)
       refine goes_ Tryd.func7 (by kernel_rfl) rfl #[.int .i64 (wrap64 (3 * (wrap64 (a1 - a0))))] (by rfl) rfl rfl (by (try simp only [List.map_toArray, List.map_cons, List.map_nil]); first | done | rfl | (simp only [List.length_drop, List.length_take]; rfl)) ?_
       with_reducible refine (spec_Ten.calls kj4 (wrap64 (3 * (wrap64 (a1 - a0)))) t329 t330 _ A14.out).mono ?_
       rintro e w113 ⟨v331, rfl, ho0, hb⟩
       refine ⟨_, rfl, ?_⟩
       have n0_ := a0_ (Kd.V_below (by (with_reducible repeat (first | apply v1_ | apply v2_ | apply v3_)); exact HO327.out) hb)
       have n1_ := a0_ (Kd.V_lower (v4_ (ok' := fun k_ => k_ ≠ gb328) ho0 (fun k_ hk_ => (Kd.freshB (g := gb328) (o := .cells #[.bool t324, .slice Ao110 t325.length co110] 26 (0, 0)) (by (with_reducible repeat (first | refine k1_ ?_ _ | refine k2_ ?_ | refine k3_ ?_ _)); exact BK328.out) k_ hk_))) (below_size (by repeat (first | (with_reducible first | exact HB.out | apply b1_ | apply b2_ | apply b3_ | refine b4_ ?_ GE328.out) | exact HB.out))))
       have n2_ := a0_ (blk_below (g := gb328) (o := .cells #[.bool t324, .slice Ao110 t325.length co110] 26 (0, 0)) (by (with_reducible repeat (first | refine k1_ ?_ _ | refine k2_ ?_ | refine k3_ ?_ _)); exact BK328.out) hb)
       have n3_ := a0_ (below_step (by repeat (first | (with_reducible first | exact HB.out | apply b1_ | apply b2_ | apply b3_ | refine b4_ ?_ GE328.out) | exact HB.out)) hb)
       clear HO327
       clear BK328
       clear HB
       have HO327 := n0_
       have HO332 := n1_
       have BK328 := n2_
       have HB := n3_
       clear n0_ n1_ n2_ n3_
       (try clear hb)
       (try clear hb2)
       (try clear hk)
       (try clear hi)
       (try clear ho0)
       obtain ⟨Ao114, co114, eo114⟩ := Kd.V_slice HO332.out
       (first | subst eo114 | (injection eo114 with f1_ f2_ f3_; have f4_ := f1_.symm; have f5_ := f3_.symm; clear f1_ f2_ f3_; subst f4_; subst f5_))
       refine hK.out _ _ ⟨(blk_cell BK328.out 0).trans rfl, (blk_cell BK328.out 1).trans rfl⟩ (fun hHeld => ?_)
       clear hK K
       refine norm_ (a' := ?_) ?_ ?_
       rotate_left
       ·
        show Act.put _ (some 47) _ = _
        simp only [Act.put, s1_, s2_, s3_, i64_w, i32_w]
        rfl
       refine one_ (i := 6) (N := some 48) #[true, true, true, true, true, true, true, false] rfl rfl (one_of HT_.out (by kernel_rfl)) (by decide) (fun K hK => ?_)
       refine goes_ Tryd.func6 (by kernel_rfl) rfl #[.agg #[.bool t324, .slice Ao110 t325.length co110], .agg #[.bool t329, .slice Ao114 t330.length co114]] (by rfl) rfl rfl (by (try simp only [List.map_toArray, List.map_cons, List.map_nil]); first | done | rfl | (simp only [List.length_drop, List.length_take]; rfl)) ?_
       with_reducible refine (spec_WideMul.calls kj4 t324 _ _ t325 t329 _ _ t330 t333 t334 _ ?side1 ?side2 ?side3 ?side4 A15.out).mono ?_
       (case side1 => repeat (first | exact (Kd.V_reads' HO327.out).2.2 | (with_reducible refine Kd.C_alloc ?_ _) | (with_reducible refine Kd.C_drewN ?_ _) | (with_reducible refine Kd.C_drew ?_)))
       (case side2 => exact (Kd.V_reads' HO327.out).2.1)
       (case side3 => repeat (first | exact (Kd.V_reads' HO332.out).2.2 | (with_reducible refine Kd.C_alloc ?_ _) | (with_reducible refine Kd.C_drewN ?_ _) | (with_reducible refine Kd.C_drew ?_)))
       (case side4 => exact (Kd.V_reads' HO332.out).2.1)
       rintro e w115 ⟨v335, rfl, ho0, hb⟩
       refine ⟨_, rfl, ?_⟩
       have n0_ := a0_ (Kd.V_below (by (with_reducible repeat (first | apply v1_ | apply v2_ | apply v3_)); exact HO327.out) hb)
       have n1_ := a0_ (Kd.V_below (by (with_reducible repeat (first | apply v1_ | apply v2_ | apply v3_)); exact HO332.out) hb)
       have n2_ := a0_ (Kd.V_lower (v4_ (ok' := fun k_ => k_ ≠ gb328) ho0 (fun k_ hk_ => (Kd.freshB (g := gb328) (o := .cells #[.bool t324, .slice Ao110 t325.length co110] 26 (0, 0)) (by (with_reducible repeat (first | refine k1_ ?_ _ | refine k2_ ?_ | refine k3_ ?_ _)); exact BK328.out) k_ hk_))) (below_size (by repeat (first | (with_reducible first | exact HB.out | apply b1_ | apply b2_ | apply b3_ | refine b4_ ?_ GE328.out) | exact HB.out))))
       have n3_ := a0_ (blk_below (g := gb328) (o := .cells #[.bool t324, .slice Ao110 t325.length co110] 26 (0, 0)) (by (with_reducible repeat (first | refine k1_ ?_ _ | refine k2_ ?_ | refine k3_ ?_ _)); exact BK328.out) hb)
       have n4_ := a0_ (below_step (by repeat (first | (with_reducible first | exact HB.out | apply b1_ | apply b2_ | apply b3_ | refine b4_ ?_ GE328.out) | exact HB.out)) hb)
       clear HO327
       clear HO332
       clear BK328
       clear HB
       have HO327 := n0_
       have HO332 := n1_
       have HO336 := n2_
       have BK328 := n3_
       have HB := n4_
       clear n0_ n1_ n2_ n3_ n4_
       (try clear hb)
       (try clear hb2)
       (try clear hk)
       (try clear hi)
       (try clear ho0)
       obtain ⟨Ao117, co117, eo117⟩ := Kd.V_slice HO336.out
       (first | subst eo117 | (injection eo117 with f1_ f2_ f3_; have f4_ := f1_.symm; have f5_ := f3_.symm; clear f1_ f2_ f3_; subst f4_; subst f5_))
       refine hK.out _ _ ⟨(blk_cell BK328.out 0).trans rfl, (blk_cell BK328.out 1).trans rfl⟩ (fun hHeld => ?_)
       clear hK K
       refine norm_ (a' := ?_) ?_ ?_
       rotate_left
       ·
        show Act.put _ (some 48) _ = _
        simp only [Act.put, s1_, s2_, s3_, i64_w, i32_w]
        rfl
       refine last_ (i := 7) (N := none) #[true, true, true, true, true, true, true, true] rfl rfl (one_of HT_.out (by kernel_rfl)) (by decide) (fun K hK => ?_)
       have hs116 : w115.cell? ⟨gb328, 0, none⟩ = some (.bool t324) := (blk_cell BK328.out 0).trans rfl
       have hfs116 := blk_frozen BK328.out 0
       have hs118 : w115.cell? ⟨gb328, 1, none⟩ = some (.slice Ao110 t325.length co110) := (blk_cell BK328.out 1).trans rfl
       have hfs118 := blk_frozen BK328.out 1
       refine skip_ (w1 := ?_) (by rfl) rfl ?_ ?_
       rotate_left
       ·
        go_simp
        rfl
       refine hK.out _ _ ?_
       clear hK K
       refine done_ (done_of HT_.out (by kernel_rfl)) ?_
       have n0_ : Aside0 (Kd.V (Kd.int .u32) 40 ((w115.setCell ⟨gb328, 0, none⟩ (.bool t333)).setCell ⟨gb328, 1, none⟩ (.slice Ao117 t334.length co117)) w.heap.size (fun k_ => k_ ≠ gb328) (.slice Ao110 t325.length co110) t325) := ⟨by (with_reducible repeat (first | apply v1_ | apply v2_ | apply v3_)); exact v4_ (v5_ (p := ⟨gb328, 1, none⟩) (v5_ (p := ⟨gb328, 0, none⟩) (v4_ HO327.out (fun k_ hk => (⟨hk, hk⟩ : _ ∧ k_ ≠ gb328))) (fun _ hk => hk.2) (.bool t333)) (fun _ hk => hk.2) (.slice Ao117 t334.length co117)) (fun _ hk => hk.1)⟩
       have n1_ : Aside0 (Kd.V (Kd.int .u32) 40 ((w115.setCell ⟨gb328, 0, none⟩ (.bool t333)).setCell ⟨gb328, 1, none⟩ (.slice Ao117 t334.length co117)) w.heap.size (fun k_ => k_ ≠ gb328) (.slice Ao114 t330.length co114) t330) := ⟨by (with_reducible repeat (first | apply v1_ | apply v2_ | apply v3_)); exact v4_ (v5_ (p := ⟨gb328, 1, none⟩) (v5_ (p := ⟨gb328, 0, none⟩) (v4_ HO332.out (fun k_ hk => (⟨hk, hk⟩ : _ ∧ k_ ≠ gb328))) (fun _ hk => hk.2) (.bool t333)) (fun _ hk => hk.2) (.slice Ao117 t334.length co117)) (fun _ hk => hk.1)⟩
       have n2_ : Aside0 (Kd.V (Kd.int .u32) 40 ((w115.setCell ⟨gb328, 0, none⟩ (.bool t333)).setCell ⟨gb328, 1, none⟩ (.slice Ao117 t334.length co117)) w.heap.size (fun k_ => k_ ≠ gb328) (.slice Ao117 t334.length co117) t334) := ⟨by (with_reducible repeat (first | apply v1_ | apply v2_ | apply v3_)); exact v4_ (v5_ (p := ⟨gb328, 1, none⟩) (v5_ (p := ⟨gb328, 0, none⟩) (v4_ HO336.out (fun k_ hk => (⟨hk, hk⟩ : _ ∧ k_ ≠ gb328))) (fun _ hk => hk.2) (.bool t333)) (fun _ hk => hk.2) (.slice Ao117 t334.length co117)) (fun _ hk => hk.1)⟩
       have n3_ : Aside0 (((w115.setCell ⟨gb328, 0, none⟩ (.bool t333)).setCell ⟨gb328, 1, none⟩ (.slice Ao117 t334.length co117)).heap[gb328]? = some (.cells #[.bool t333, .slice Ao117 t334.length co117] 26 (0, 0))) := ⟨by (with_reducible repeat (first | refine k1_ ?_ _ | refine k2_ ?_ | refine k3_ ?_ _)); refine blk_put (cs := #[.bool t333, .slice Ao110 t325.length co110]) ?_ 1 _ rfl; (with_reducible repeat (first | refine k1_ ?_ _ | refine k2_ ?_ | refine k3_ ?_ _)); refine blk_put (cs := #[.bool t324, .slice Ao110 t325.length co110]) ?_ 0 _ rfl; (with_reducible repeat (first | refine k1_ ?_ _ | refine k2_ ?_ | refine k3_ ?_ _)); exact BK328.out⟩
       have n4_ : Aside0 (Below w.heap.size w ((w115.setCell ⟨gb328, 0, none⟩ (.bool t333)).setCell ⟨gb328, 1, none⟩ (.slice Ao117 t334.length co117))) := ⟨by repeat (first | (with_reducible first | exact HB.out | apply b1_ | apply b2_ | apply b3_ | refine b4_ ?_ GE328.out) | exact HB.out)⟩
       (try clear HO327)
       (try clear HO332)
       (try clear HO336)
       (try clear BK328)
       (try clear HB)
       generalize ((w115.setCell ⟨gb328, 0, none⟩ (.bool t333)).setCell ⟨gb328, 1, none⟩ (.slice Ao117 t334.length co117)) = w119 at n0_ n1_ n2_ n3_ n4_ ⊢
       have HO327 := n0_
       have HO332 := n1_
       have HO336 := n2_
       have BK328 := n3_
       have HB := n4_
       clear n0_ n1_ n2_ n3_ n4_
       have hcz120_0 : w119.cell? ⟨gb328, 0, none⟩ = some (.bool t333) := (blk_cell BK328.out 0).trans rfl
       have hcz120_1 : w119.cell? ⟨gb328, 1, none⟩ = some (.slice Ao117 t334.length co117) := (blk_cell BK328.out 1).trans rfl
       have hfz120_0 := blk_frozen BK328.out 0
       have hfz120_1 := blk_frozen BK328.out 1
       try go_wp2_with (first | ((with_reducible refine gate_callee (f := 9) rfl ?_); refine goesL_ (some 61) rfl rfl Tryd.func9 (by kernel_rfl) rfl #[.agg #[.bool t333, .slice Ao117 t334.length co117], .int .i64 1] rfl (by (try simp only [List.map_toArray, List.map_cons, List.map_nil]); first | done | rfl | (simp only [List.length_drop, List.length_take]; rfl)) ?_; (with_reducible refine (spec_ToWords.calls kj4 t333 (fun k_ => k_ ≠ gb328) _ _ t334 1 t337 false _ ?side1 A16.out).mono ?_); (case side1 => exact HO336.out); rintro e w121 ⟨v338, rfl, ho0, hb⟩; refine ⟨_, rfl, ?_⟩; have n0_ := a0_ (Kd.V_elder' (by (with_reducible repeat (first | apply v1_ | apply v2_ | apply v3_)); exact HO327.out) (Kd.R_base ho0) hb); have n1_ := a0_ (Kd.V_elder' (by (with_reducible repeat (first | apply v1_ | apply v2_ | apply v3_)); exact HO332.out) (Kd.R_base ho0) hb); have n2_ := a0_ (Kd.V_elder' (by (with_reducible repeat (first | apply v1_ | apply v2_ | apply v3_)); exact HO336.out) (Kd.R_base ho0) hb); have n3_ := a0_ (Kd.R_lower (Kd.R_mono (ok' := fun k_ => True) ho0 (fun _ hk_ => trivial)) (below_size (by repeat (first | (with_reducible first | exact HB.out | apply b1_ | apply b2_ | apply b3_ | refine b4_ ?_ GE328.out) | exact HB.out)))); have n4_ := a0_ (blk_below (g := gb328) (o := .cells #[.bool t333, .slice Ao117 t334.length co117] 26 (0, 0)) (by (with_reducible repeat (first | refine k1_ ?_ _ | refine k2_ ?_ | refine k3_ ?_ _)); exact BK328.out) hb); have n5_ := a0_ (below_step (by repeat (first | (with_reducible first | exact HB.out | apply b1_ | apply b2_ | apply b3_ | refine b4_ ?_ GE328.out) | exact HB.out)) hb); clear HO327; clear HO332; clear HO336; clear BK328; clear HB; have HO327 := n0_; have HO332 := n1_; have HO336 := n2_; have HO339 := n3_; have BK328 := n4_; have HB := n5_; clear n0_ n1_ n2_ n3_ n4_ n5_; (try clear hb); (try clear hb2); (try clear hk); (try clear hi); (try clear ho0)) | ((with_reducible refine gate_callee (f := 4) rfl ?_); refine goesL_ (some 68) rfl rfl Tryd.func4 (by kernel_rfl) rfl #[.int .i64 a0, .int .i64 a1, .int .i64 a2] rfl (by (try simp only [List.map_toArray, List.map_cons, List.map_nil]); first | done | rfl | (simp only [List.length_drop, List.length_take]; rfl)) ?_; (with_reducible refine (impl_UnitConvert.calls a0 a1 a2 t341 t342 _ A17.out (HTAB.out.below (by repeat (first | (with_reducible first | exact HB.out | apply b1_ | apply b2_ | apply b3_ | refine b4_ ?_ GE328.out) | exact HB.out)))).mono ?_); rintro e w122 ⟨rfl, hb⟩; refine ⟨_, rfl, ?_⟩; have n0_ := a0_ (Kd.V_below (by (with_reducible repeat (first | apply v1_ | apply v2_ | apply v3_)); exact HO327.out) hb); have n1_ := a0_ (Kd.V_below (by (with_reducible repeat (first | apply v1_ | apply v2_ | apply v3_)); exact HO332.out) hb); have n2_ := a0_ (Kd.V_below (by (with_reducible repeat (first | apply v1_ | apply v2_ | apply v3_)); exact HO336.out) hb); have n3_ := a0_ (Kd.R_below (by (with_reducible repeat (first | apply r1_ | apply r2_ | apply r3_)); exact HO339.out) hb); have n4_ := a0_ (blk_below (g := gb328) (o := .cells #[.bool t333, .slice Ao117 t334.length co117] 26 (0, 0)) (by (with_reducible repeat (first | refine k1_ ?_ _ | refine k2_ ?_ | refine k3_ ?_ _)); exact BK328.out) hb); have n5_ := a0_ (below_step (by repeat (first | (with_reducible first | exact HB.out | apply b1_ | apply b2_ | apply b3_ | refine b4_ ?_ GE328.out) | exact HB.out)) hb); clear HO327; clear HO332; clear HO336; clear HO339; clear BK328; clear HB; have HO327 := n0_; have HO332 := n1_; have HO336 := n2_; have HO339 := n3_; have BK328 := n4_; have HB := n5_; clear n0_ n1_ n2_ n3_ n4_ n5_; (try clear hb); (try clear hb2); (try clear hk); (try clear hi)))
       go_ret
       exact ⟨by first | rfl | (simp [e1_, e2_] <;> rfl) | (simp [*, e1_, e2_] <;> rfl), by repeat (first | (with_reducible first | exact HB.out | apply b1_ | apply b2_ | apply b3_ | refine b4_ ?_ GE328.out) | exact HB.out)⟩
    ·
     rw [if_neg c13] at H
     have c13b0 : decide (a0 < a1) = false := d3_ c13
     clear c13
     replace H := Option.bind_eq_some_iff.mp H
     obtain ⟨⟨t344, t345⟩, A1230, H⟩ := H
     replace H : ((spec_WideDiv.f kj4 t324 t325 t344 t345).bind fun bt348 => ((spec_ToWords.f kj4 bt348.1 bt348.2.1 1).bind fun bt356 => ((impl_UnitConvert.f a0 a1 a2).bind fun bt360 => (if bt356.2 = true then (if bt360.2 = true then (if 0 < (bt356.1.length : Int) then (if bt360.1 = (wrap64 (rd bt356.1 0)) then (if t322 = 1000 then (some t323) else (some false)) else (some false)) else (none)) else (some false)) else (if t322 = 1000 then (some t323) else (some false)))))) = some r := H
     have A123 := a0_ A1230
     clear A1230
     replace H := Option.bind_eq_some_iff.mp H
     obtain ⟨⟨t348, t349, t352, t353⟩, A1240, H⟩ := H
     replace H : ((spec_ToWords.f kj4 t348 t349 1).bind fun bt356 => ((impl_UnitConvert.f a0 a1 a2).bind fun bt360 => (if bt356.2 = true then (if bt360.2 = true then (if 0 < (bt356.1.length : Int) then (if bt360.1 = (wrap64 (rd bt356.1 0)) then (if t322 = 1000 then (some t323) else (some false)) else (some false)) else (none)) else (some false)) else (if t322 = 1000 then (some t323) else (some false))))) = some r := H
     have A124 := a0_ A1240
     clear A1240
     replace H := Option.bind_eq_some_iff.mp H
     obtain ⟨⟨t356, t359⟩, A1250, H⟩ := H
     replace H : ((impl_UnitConvert.f a0 a1 a2).bind fun bt360 => (if t359 = true then (if bt360.2 = true then (if 0 < (t356.length : Int) then (if bt360.1 = (wrap64 (rd t356 0)) then (if t322 = 1000 then (some t323) else (some false)) else (some false)) else (none)) else (some false)) else (if t322 = 1000 then (some t323) else (some false)))) = some r := H
     have A125 := a0_ A1250
     clear A1250
     replace H := Option.bind_eq_some_iff.mp H
     obtain ⟨⟨t360, t361⟩, A1260, H⟩ := H
     replace H : (if t359 = true then (if t361 = true then (if 0 < (t356.length : Int) then (if t360 = (wrap64 (rd t356 0)) then (if t322 = 1000 then (some t323) else (some false)) else (some false)) else (none)) else (some false)) else (if t322 = 1000 then (some t323) else (some false))) = some r := H
     have A126 := a0_ A1260
     clear A1260
     by_cases c127 : t359 = true
     ·
      subst c127
      have H1 : (if t361 = true then (if 0 < (t356.length : Int) then (if t360 = (wrap64 (rd t356 0)) then (if t322 = 1000 then (some t323) else (some false)) else (some false)) else (none)) else (some false)) = some r := by rw [if_pos rfl] at H; exact H
      clear H
      have H := H1
      clear H1
      by_cases c128 : t361 = true
      ·
       subst c128
       have H1 : (if 0 < (t356.length : Int) then (if t360 = (wrap64 (rd t356 0)) then (if t322 = 1000 then (some t323) else (some false)) else (some false)) else (none)) = some r := by rw [if_pos rfl] at H; exact H
       clear H
       have H := H1
       clear H1
       by_cases c129 : 0 < (t356.length : Int)
       ·
        rw [if_pos c129] at H
        have c129b0 : decide (0 < (t356.length : Int)) = true := d2_ c129
        have c129b1 : decide (0 < t356.length) = true := d2_ (by omega)
        clear c129
        by_cases c130 : t360 = (wrap64 (rd t356 0))
        ·
         rw [if_pos c130] at H
         have c130b0 : (t360 == (wrap64 (rd t356 0))) = true := beq_iff_eq.mpr c130
         have c130b1 : (t360 != (wrap64 (rd t356 0))) = false := bne_eq_false_iff_eq.mpr c130
         clear c130
         by_cases c131 : t322 = 1000
         ·
          rw [if_pos c131] at H
          have c131b0 : (t322 == 1000) = true := beq_iff_eq.mpr c131
          have c131b1 : (t322 != 1000) = false := bne_eq_false_iff_eq.mpr c131
          clear c131
          obtain rfl := o1_ H
          try go_wp2_with (first | ((with_reducible refine gate_callee (f := 5) rfl ?_); refine goesL_ (some 38) rfl rfl Tryd.func5 (by kernel_rfl) rfl #[.int .i64 a2] rfl (by (try simp only [List.map_toArray, List.map_cons, List.map_nil]); first | done | rfl | (simp only [List.length_drop, List.length_take]; rfl)) ?_; (with_reducible refine (spec_WideInt.calls kj4 a2 t324 t325 _ A12.out).mono ?_); rintro e w132 ⟨v326, rfl, ho0, hb⟩; refine ⟨_, rfl, ?_⟩; have n0_ := a0_ (Kd.V_lower (v4_ (ok' := fun k_ => True) ho0 (fun k_ hk_ => trivial)) (below_size (by repeat (first | (with_reducible first | exact HB.out | apply b1_ | apply b2_ | apply b3_) | exact HB.out)))); have n1_ := a0_ (below_step (by repeat (first | (with_reducible first | exact HB.out | apply b1_ | apply b2_ | apply b3_) | exact HB.out)) hb); clear HB; have HO327 := n0_; have HB := n1_; clear n0_ n1_; (try clear hb); (try clear hb2); (try clear hk); (try clear hi); (try clear ho0)) | ((with_reducible refine gate_dst (N := 9) rfl ?_); refine box_event ?hg (N := 9) ?hd (cs := #[.bool false, .slice none 0 0]) (t := 26) ?hr ?_; (case hd => rfl); (case hg => rfl); (case hr => first | (go_simp; done) | (go_simp; rfl)); intro gb328 hg w133 hbox hb; have n0_ := a0_ (Kd.V_below (Kd.V_elderB (by (with_reducible repeat (first | apply v1_ | apply v2_ | apply v3_)); exact HO327.out) gb328 (Nat.le_of_eq hg.symm)) hb); have n1_ := a0_ (below_step (by repeat (first | (with_reducible first | exact HB.out | apply b1_ | apply b2_ | apply b3_) | exact HB.out)) hb); have n2_ := a0_ (hbox); have n3_ := a0_ ((by rw [hg]; exact (below_size (by repeat (first | (with_reducible first | exact HB.out | apply b1_ | apply b2_ | apply b3_) | exact HB.out))) : w.heap.size ≤ gb328)); have n4_ := a0_ ((by rw [hg]; exact (below_size (by repeat (first | (with_reducible first | exact HB.out | apply b1_ | apply b2_ | apply b3_) | exact HB.out))) : w.heap.size ≤ gb328)); clear HO327; clear HB; have HO327 := n0_; have HB := n1_; have BK328 := n2_; have GW328 := n3_; have GE328 := n4_; clear n0_ n1_ n2_ n3_ n4_; clear hb hbox hg; have hcz134_0 : w133.cell? ⟨gb328, 0, none⟩ = some (.bool false) := (blk_cell BK328.out 0).trans rfl; have hcz134_1 : w133.cell? ⟨gb328, 1, none⟩ = some (.slice none 0 0) := (blk_cell BK328.out 1).trans rfl; have hfz134_0 := blk_frozen BK328.out 0; have hfz134_1 := blk_frozen BK328.out 1; obtain ⟨Ao135, co135, eo135⟩ := Kd.V_slice HO327.out; subst eo135))
          have n0_ : Aside0 (Kd.V (Kd.int .u32) 40 ((w133.setCell ⟨gb328, 0, none⟩ (.bool t324)).setCell ⟨gb328, 1, none⟩ (.slice Ao135 t325.length co135)) w.heap.size (fun k_ => k_ ≠ gb328) (.slice Ao135 t325.length co135) t325) := ⟨by (with_reducible repeat (first | apply v1_ | apply v2_ | apply v3_)); exact v4_ (v5_ (p := ⟨gb328, 1, none⟩) (v5_ (p := ⟨gb328, 0, none⟩) (v4_ HO327.out (fun k_ hk => (⟨hk, hk.2⟩ : _ ∧ k_ ≠ gb328))) (fun _ hk => hk.2) (.bool t324)) (fun _ hk => hk.2) (.slice Ao135 t325.length co135)) (fun _ hk => hk.1.2)⟩
          have n1_ : Aside0 (((w133.setCell ⟨gb328, 0, none⟩ (.bool t324)).setCell ⟨gb328, 1, none⟩ (.slice Ao135 t325.length co135)).heap[gb328]? = some (.cells #[.bool t324, .slice Ao135 t325.length co135] 26 (0, 0))) := ⟨by (with_reducible repeat (first | refine k1_ ?_ _ | refine k2_ ?_ | refine k3_ ?_ _)); refine blk_put (cs := #[.bool t324, .slice none 0 0]) ?_ 1 _ rfl; (with_reducible repeat (first | refine k1_ ?_ _ | refine k2_ ?_ | refine k3_ ?_ _)); refine blk_put (cs := #[.bool false, .slice none 0 0]) ?_ 0 _ rfl; (with_reducible repeat (first | refine k1_ ?_ _ | refine k2_ ?_ | refine k3_ ?_ _)); exact BK328.out⟩
          have n2_ : Aside0 (Below w.heap.size w ((w133.setCell ⟨gb328, 0, none⟩ (.bool t324)).setCell ⟨gb328, 1, none⟩ (.slice Ao135 t325.length co135))) := ⟨by repeat (first | (with_reducible first | exact HB.out | apply b1_ | apply b2_ | apply b3_ | refine b4_ ?_ GE328.out) | exact HB.out)⟩
          (try clear HO327)
          (try clear BK328)
          (try clear HB)
          generalize ((w133.setCell ⟨gb328, 0, none⟩ (.bool t324)).setCell ⟨gb328, 1, none⟩ (.slice Ao135 t325.length co135)) = w136 at n0_ n1_ n2_ ⊢
          have HO327 := n0_
          have BK328 := n1_
          have HB := n2_
          clear n0_ n1_ n2_
          have n0_ := a0_ (v3_ HO327.out)
          have n1_ := a0_ (k2_ BK328.out)
          have n2_ := a0_ (b3_ HB.out)
          clear HO327
          clear BK328
          clear HB
          have HO327 := n0_
          have BK328 := n1_
          have HB := n2_
          clear n0_ n1_ n2_
          refine start_ (n := 11) (S := fun w' => w'.cell? ⟨gb328, 0, none⟩ = some (.bool t324) ∧ w'.cell? ⟨gb328, 1, none⟩ = some (.slice Ao135 t325.length co135)) (ds := [10]) #[false, false, false, false, false, false, false, false, false, false, false] (by kernel_rfl) rfl rfl ⟨(blk_cell BK328.out 0).trans rfl, (blk_cell BK328.out 1).trans rfl⟩ (fun hHeld => ?_); refine with_tabW laws_FnUnitConvert.tab7 laws_FnUnitConvert.bits7 (fun HT_ HW_ => ?_)
          generalize w136.drew = w137 at HO327 BK328 HB hHeld ⊢
          refine pure_ (i := 1) (N := some 51) (v := ?_) (a' := ?_) #[false, true, false, false, false, false, false, false, false, false, false] rfl rfl (any_of HT_.out (by kernel_rfl)) (fun _ _ _ h => h) (Or.inl ⟨by rfl, ?_⟩) ?_ ?_
          rotate_left
          ·
           intro w'
           go_simp
           with_reducible rfl
          rotate_left
          ·
           simp only [Act.put, s1_, s2_, s3_, i64_w, i32_w]
           rfl
          refine pure_ (i := 2) (N := some 52) (v := ?_) (a' := ?_) #[false, true, true, false, false, false, false, false, false, false, false] rfl rfl (any_of HT_.out (by kernel_rfl)) (fun _ _ _ h => h) (Or.inl ⟨by rfl, ?_⟩) ?_ ?_
          rotate_left
          ·
           intro w'
           go_simp
           with_reducible rfl
          rotate_left
          ·
           simp only [Act.put, s1_, s2_, s3_, i64_w, i32_w]
           rfl
          refine pure_ (i := 3) (N := some 53) (v := ?_) (a' := ?_) #[false, true, true, true, false, false, false, false, false, false, false] rfl rfl (any_of HT_.out (by kernel_rfl)) (fun _ _ _ h => h) (Or.inl ⟨by rfl, ?_⟩) ?_ ?_
          rotate_left
          ·
           intro w'
           go_simp
           with_reducible rfl
          rotate_left
          ·
           simp only [Act.put, s1_, s2_, s3_, i64_w, i32_w]
           rfl
          refine pure_ (i := 4) (N := some 54) (v := ?_) (a' := ?_) #[false, true, true, true, true, false, false, false, false, false, false] rfl rfl (any_of HT_.out (by kernel_rfl)) (fun _ _ _ h => h) (Or.inl ⟨by rfl, ?_⟩) ?_ ?_
          rotate_left
          ·
           intro w'
           go_simp
           with_reducible rfl
          rotate_left
          ·
           simp only [Act.put, s1_, s2_, s3_, i64_w, i32_w]
           rfl
          refine take_ (i := 0) (N := some 50) (v := ?_) (a' := ?_) #[true, true, true, true, true, false, false, false, false, false, false] rfl rfl (take_ofW HT_.out HW_.out (by kernel_rfl)) (fun _ _ _ h => h) (Or.inl ⟨by rfl, ?_⟩) hHeld ?_ ?_
          rotate_left
          ·
           rintro w' ⟨s0, s1⟩
           go_simp
           with_reducible rfl
          rotate_left
          ·
           simp only [Act.put, s1_, s2_, s3_, i64_w, i32_w]
           rfl
          refine one_ (i := 5) (N := some 55) #[true, true, true, true, true, true, false, false, false, false, false] rfl rfl (one_of HT_.out (by kernel_rfl)) (by decide) (fun K hK => ?_)
          refine goes_ Tryd.func7 (by kernel_rfl) rfl #[.int .i64 (wrap64 (3 * (wrap64 (a0 - a1))))] (by rfl) rfl rfl (by (try simp only [List.map_toArray, List.map_cons, List.map_nil]); first | done | rfl | (simp only [List.length_drop, List.length_take]; rfl)) ?_
          with_reducible refine (spec_Ten.calls kj4 (wrap64 (3 * (wrap64 (a0 - a1)))) t344 t345 _ A123.out).mono ?_
          rintro e w138 ⟨v346, rfl, ho0, hb⟩
          refine ⟨_, rfl, ?_⟩
          have n0_ := a0_ (Kd.V_below (by (with_reducible repeat (first | apply v1_ | apply v2_ | apply v3_)); exact HO327.out) hb)
          have n1_ := a0_ (Kd.V_lower (v4_ (ok' := fun k_ => k_ ≠ gb328) ho0 (fun k_ hk_ => (Kd.freshB (g := gb328) (o := .cells #[.bool t324, .slice Ao135 t325.length co135] 26 (0, 0)) (by (with_reducible repeat (first | refine k1_ ?_ _ | refine k2_ ?_ | refine k3_ ?_ _)); exact BK328.out) k_ hk_))) (below_size (by repeat (first | (with_reducible first | exact HB.out | apply b1_ | apply b2_ | apply b3_ | refine b4_ ?_ GE328.out) | exact HB.out))))
          have n2_ := a0_ (blk_below (g := gb328) (o := .cells #[.bool t324, .slice Ao135 t325.length co135] 26 (0, 0)) (by (with_reducible repeat (first | refine k1_ ?_ _ | refine k2_ ?_ | refine k3_ ?_ _)); exact BK328.out) hb)
          have n3_ := a0_ (below_step (by repeat (first | (with_reducible first | exact HB.out | apply b1_ | apply b2_ | apply b3_ | refine b4_ ?_ GE328.out) | exact HB.out)) hb)
          clear HO327
          clear BK328
          clear HB
          have HO327 := n0_
          have HO347 := n1_
          have BK328 := n2_
          have HB := n3_
          clear n0_ n1_ n2_ n3_
          (try clear hb)
          (try clear hb2)
          (try clear hk)
          (try clear hi)
          (try clear ho0)
          obtain ⟨Ao139, co139, eo139⟩ := Kd.V_slice HO347.out
          (first | subst eo139 | (injection eo139 with f1_ f2_ f3_; have f4_ := f1_.symm; have f5_ := f3_.symm; clear f1_ f2_ f3_; subst f4_; subst f5_))
          refine hK.out _ _ ⟨(blk_cell BK328.out 0).trans rfl, (blk_cell BK328.out 1).trans rfl⟩ (fun hHeld => ?_)
          clear hK K
          refine norm_ (a' := ?_) ?_ ?_
          rotate_left
          ·
           show Act.put _ (some 55) _ = _
           simp only [Act.put, s1_, s2_, s3_, i64_w, i32_w]
           rfl
          refine one_ (i := 6) (N := some 56) #[true, true, true, true, true, true, true, false, false, false, false] rfl rfl (one_of HT_.out (by kernel_rfl)) (by decide) (fun K hK => ?_)
          refine goes_ Tryd.func8 (by kernel_rfl) rfl #[.agg #[.bool t324, .slice Ao135 t325.length co135], .agg #[.bool t344, .slice Ao139 t345.length co139]] (by rfl) rfl rfl (by (try simp only [List.map_toArray, List.map_cons, List.map_nil]); first | done | rfl | (simp only [List.length_drop, List.length_take]; rfl)) ?_
          with_reducible refine (spec_WideDiv.calls kj4 t324 _ _ t325 t344 _ _ t345 t348 t349 t352 t353 _ ?side1 ?side2 ?side3 ?side4 A124.out).mono ?_
          (case side1 => repeat (first | exact (Kd.V_reads' HO327.out).2.2 | (with_reducible refine Kd.C_alloc ?_ _) | (with_reducible refine Kd.C_drewN ?_ _) | (with_reducible refine Kd.C_drew ?_)))
          (case side2 => exact (Kd.V_reads' HO327.out).2.1)
          (case side3 => repeat (first | exact (Kd.V_reads' HO347.out).2.2 | (with_reducible refine Kd.C_alloc ?_ _) | (with_reducible refine Kd.C_drewN ?_ _) | (with_reducible refine Kd.C_drew ?_)))
          (case side4 => exact (Kd.V_reads' HO347.out).2.1)
          rintro e w140 ⟨v350, v354, rfl, ho0, ho1, hb⟩
          refine ⟨_, rfl, ?_⟩
          have n0_ := a0_ (Kd.V_below (by (with_reducible repeat (first | apply v1_ | apply v2_ | apply v3_)); exact HO327.out) hb)
          have n1_ := a0_ (Kd.V_below (by (with_reducible repeat (first | apply v1_ | apply v2_ | apply v3_)); exact HO347.out) hb)
          have n2_ := a0_ (Kd.V_lower (v4_ (ok' := fun k_ => k_ ≠ gb328) ho0 (fun k_ hk_ => (Kd.freshB (g := gb328) (o := .cells #[.bool t324, .slice Ao135 t325.length co135] 26 (0, 0)) (by (with_reducible repeat (first | refine k1_ ?_ _ | refine k2_ ?_ | refine k3_ ?_ _)); exact BK328.out) k_ hk_))) (below_size (by repeat (first | (with_reducible first | exact HB.out | apply b1_ | apply b2_ | apply b3_ | refine b4_ ?_ GE328.out) | exact HB.out))))
          have n3_ := a0_ (Kd.V_lower (v4_ (ok' := fun k_ => k_ ≠ gb328) ho1 (fun k_ hk_ => (Kd.freshB (g := gb328) (o := .cells #[.bool t324, .slice Ao135 t325.length co135] 26 (0, 0)) (by (with_reducible repeat (first | refine k1_ ?_ _ | refine k2_ ?_ | refine k3_ ?_ _)); exact BK328.out) k_ hk_))) (below_size (by repeat (first | (with_reducible first | exact HB.out | apply b1_ | apply b2_ | apply b3_ | refine b4_ ?_ GE328.out) | exact HB.out))))
          have n4_ := a0_ (blk_below (g := gb328) (o := .cells #[.bool t324, .slice Ao135 t325.length co135] 26 (0, 0)) (by (with_reducible repeat (first | refine k1_ ?_ _ | refine k2_ ?_ | refine k3_ ?_ _)); exact BK328.out) hb)
          have n5_ := a0_ (below_step (by repeat (first | (with_reducible first | exact HB.out | apply b1_ | apply b2_ | apply b3_ | refine b4_ ?_ GE328.out) | exact HB.out)) hb)
          clear HO327
          clear HO347
          clear BK328
          clear HB
          have HO327 := n0_
          have HO347 := n1_
          have HO351 := n2_
          have HO355 := n3_
          have BK328 := n4_
          have HB := n5_
          clear n0_ n1_ n2_ n3_ n4_ n5_
          (try clear hb)
          (try clear hb2)
          (try clear hk)
          (try clear hi)
          (try clear ho0)
          (try clear ho1)
          obtain ⟨Ao142, co142, eo142⟩ := Kd.V_slice HO351.out
          (first | subst eo142 | (injection eo142 with f1_ f2_ f3_; have f4_ := f1_.symm; have f5_ := f3_.symm; clear f1_ f2_ f3_; subst f4_; subst f5_))
          refine hK.out _ _ ⟨(blk_cell BK328.out 0).trans rfl, (blk_cell BK328.out 1).trans rfl⟩ (fun hHeld => ?_)
          clear hK K
          refine norm_ (a' := ?_) ?_ ?_
          rotate_left
          ·
           show Act.put _ (some 56) _ = _
           simp only [Act.put, s1_, s2_, s3_, i64_w, i32_w]
           rfl
          refine pure_ (i := 7) (N := some 49) (v := ?_) (a' := ?_) #[true, true, true, true, true, true, true, true, false, false, false] rfl rfl (any_of HT_.out (by kernel_rfl)) (fun _ _ _ h => h) (Or.inl ⟨by rfl, ?_⟩) ?_ ?_
          rotate_left
          ·
           intro w'
           go_simp
           with_reducible rfl
          rotate_left
          ·
           simp only [Act.put, s1_, s2_, s3_, i64_w, i32_w]
           rfl
          refine pure_ (i := 8) (N := some 57) (v := ?_) (a' := ?_) #[true, true, true, true, true, true, true, true, true, false, false] rfl rfl (any_of HT_.out (by kernel_rfl)) (fun _ _ _ h => h) (Or.inl ⟨by rfl, ?_⟩) ?_ ?_
          rotate_left
          ·
           intro w'
           go_simp
           with_reducible rfl
          rotate_left
          ·
           simp only [Act.put, s1_, s2_, s3_, i64_w, i32_w]
           rfl
          refine pure_ (i := 9) (N := some 58) (v := ?_) (a' := ?_) #[true, true, true, true, true, true, true, true, true, true, false] rfl rfl (any_of HT_.out (by kernel_rfl)) (fun _ _ _ h => h) (Or.inl ⟨by rfl, ?_⟩) ?_ ?_
          rotate_left
          ·
           intro w'
           go_simp
           with_reducible rfl
          rotate_left
          ·
           simp only [Act.put, s1_, s2_, s3_, i64_w, i32_w]
           rfl
          refine last_ (i := 10) (N := none) #[true, true, true, true, true, true, true, true, true, true, true] rfl rfl (one_of HT_.out (by kernel_rfl)) (by decide) (fun K hK => ?_)
          have hs141 : w140.cell? ⟨gb328, 0, none⟩ = some (.bool t324) := (blk_cell BK328.out 0).trans rfl
          have hfs141 := blk_frozen BK328.out 0
          have hs143 : w140.cell? ⟨gb328, 1, none⟩ = some (.slice Ao135 t325.length co135) := (blk_cell BK328.out 1).trans rfl
          have hfs143 := blk_frozen BK328.out 1
          refine skip_ (w1 := ?_) (by rfl) rfl ?_ ?_
          rotate_left
          ·
           go_simp
           rfl
          refine hK.out _ _ ?_
          clear hK K
          refine done_ (done_of HT_.out (by kernel_rfl)) ?_
          have n0_ : Aside0 (Kd.V (Kd.int .u32) 40 ((w140.setCell ⟨gb328, 0, none⟩ (.bool t348)).setCell ⟨gb328, 1, none⟩ (.slice Ao142 t349.length co142)) w.heap.size (fun k_ => k_ ≠ gb328) (.slice Ao135 t325.length co135) t325) := ⟨by (with_reducible repeat (first | apply v1_ | apply v2_ | apply v3_)); exact v4_ (v5_ (p := ⟨gb328, 1, none⟩) (v5_ (p := ⟨gb328, 0, none⟩) (v4_ HO327.out (fun k_ hk => (⟨hk, hk⟩ : _ ∧ k_ ≠ gb328))) (fun _ hk => hk.2) (.bool t348)) (fun _ hk => hk.2) (.slice Ao142 t349.length co142)) (fun _ hk => hk.1)⟩
          have n1_ : Aside0 (Kd.V (Kd.int .u32) 40 ((w140.setCell ⟨gb328, 0, none⟩ (.bool t348)).setCell ⟨gb328, 1, none⟩ (.slice Ao142 t349.length co142)) w.heap.size (fun k_ => k_ ≠ gb328) (.slice Ao139 t345.length co139) t345) := ⟨by (with_reducible repeat (first | apply v1_ | apply v2_ | apply v3_)); exact v4_ (v5_ (p := ⟨gb328, 1, none⟩) (v5_ (p := ⟨gb328, 0, none⟩) (v4_ HO347.out (fun k_ hk => (⟨hk, hk⟩ : _ ∧ k_ ≠ gb328))) (fun _ hk => hk.2) (.bool t348)) (fun _ hk => hk.2) (.slice Ao142 t349.length co142)) (fun _ hk => hk.1)⟩
          have n2_ : Aside0 (Kd.V (Kd.int .u32) 40 ((w140.setCell ⟨gb328, 0, none⟩ (.bool t348)).setCell ⟨gb328, 1, none⟩ (.slice Ao142 t349.length co142)) w.heap.size (fun k_ => k_ ≠ gb328) (.slice Ao142 t349.length co142) t349) := ⟨by (with_reducible repeat (first | apply v1_ | apply v2_ | apply v3_)); exact v4_ (v5_ (p := ⟨gb328, 1, none⟩) (v5_ (p := ⟨gb328, 0, none⟩) (v4_ HO351.out (fun k_ hk => (⟨hk, hk⟩ : _ ∧ k_ ≠ gb328))) (fun _ hk => hk.2) (.bool t348)) (fun _ hk => hk.2) (.slice Ao142 t349.length co142)) (fun _ hk => hk.1)⟩
          have n3_ : Aside0 (Kd.V (Kd.int .u32) 40 ((w140.setCell ⟨gb328, 0, none⟩ (.bool t348)).setCell ⟨gb328, 1, none⟩ (.slice Ao142 t349.length co142)) w.heap.size (fun k_ => k_ ≠ gb328) v354 t353) := ⟨by (with_reducible repeat (first | apply v1_ | apply v2_ | apply v3_)); exact v4_ (v5_ (p := ⟨gb328, 1, none⟩) (v5_ (p := ⟨gb328, 0, none⟩) (v4_ HO355.out (fun k_ hk => (⟨hk, hk⟩ : _ ∧ k_ ≠ gb328))) (fun _ hk => hk.2) (.bool t348)) (fun _ hk => hk.2) (.slice Ao142 t349.length co142)) (fun _ hk => hk.1)⟩
          have n4_ : Aside0 (((w140.setCell ⟨gb328, 0, none⟩ (.bool t348)).setCell ⟨gb328, 1, none⟩ (.slice Ao142 t349.length co142)).heap[gb328]? = some (.cells #[.bool t348, .slice Ao142 t349.length co142] 26 (0, 0))) := ⟨by (with_reducible repeat (first | refine k1_ ?_ _ | refine k2_ ?_ | refine k3_ ?_ _)); refine blk_put (cs := #[.bool t348, .slice Ao135 t325.length co135]) ?_ 1 _ rfl; (with_reducible repeat (first | refine k1_ ?_ _ | refine k2_ ?_ | refine k3_ ?_ _)); refine blk_put (cs := #[.bool t324, .slice Ao135 t325.length co135]) ?_ 0 _ rfl; (with_reducible repeat (first | refine k1_ ?_ _ | refine k2_ ?_ | refine k3_ ?_ _)); exact BK328.out⟩
          have n5_ : Aside0 (Below w.heap.size w ((w140.setCell ⟨gb328, 0, none⟩ (.bool t348)).setCell ⟨gb328, 1, none⟩ (.slice Ao142 t349.length co142))) := ⟨by repeat (first | (with_reducible first | exact HB.out | apply b1_ | apply b2_ | apply b3_ | refine b4_ ?_ GE328.out) | exact HB.out)⟩
          (try clear HO327)
          (try clear HO347)
          (try clear HO351)
          (try clear HO355)
          (try clear BK328)
          (try clear HB)
          generalize ((w140.setCell ⟨gb328, 0, none⟩ (.bool t348)).setCell ⟨gb328, 1, none⟩ (.slice Ao142 t349.length co142)) = w144 at n0_ n1_ n2_ n3_ n4_ n5_ ⊢
          have HO327 := n0_
          have HO347 := n1_
          have HO351 := n2_
          have HO355 := n3_
          have BK328 := n4_
          have HB := n5_
          clear n0_ n1_ n2_ n3_ n4_ n5_
          have hcz145_0 : w144.cell? ⟨gb328, 0, none⟩ = some (.bool t348) := (blk_cell BK328.out 0).trans rfl
          have hcz145_1 : w144.cell? ⟨gb328, 1, none⟩ = some (.slice Ao142 t349.length co142) := (blk_cell BK328.out 1).trans rfl
          have hfz145_0 := blk_frozen BK328.out 0
          have hfz145_1 := blk_frozen BK328.out 1
          try go_wp2_with (first | ((with_reducible refine gate_callee (f := 9) rfl ?_); refine goesL_ (some 61) rfl rfl Tryd.func9 (by kernel_rfl) rfl #[.agg #[.bool t348, .slice Ao142 t349.length co142], .int .i64 1] rfl (by (try simp only [List.map_toArray, List.map_cons, List.map_nil]); first | done | rfl | (simp only [List.length_drop, List.length_take]; rfl)) ?_; (with_reducible refine (spec_ToWords.calls kj4 t348 (fun k_ => k_ ≠ gb328) _ _ t349 1 t356 true _ ?side1 A125.out).mono ?_); (case side1 => exact HO351.out); rintro e w146 ⟨v357, rfl, ho0, hb⟩; refine ⟨_, rfl, ?_⟩; have n0_ := a0_ (Kd.V_elder' (by (with_reducible repeat (first | apply v1_ | apply v2_ | apply v3_)); exact HO327.out) (Kd.R_base ho0) hb); have n1_ := a0_ (Kd.V_elder' (by (with_reducible repeat (first | apply v1_ | apply v2_ | apply v3_)); exact HO347.out) (Kd.R_base ho0) hb); have n2_ := a0_ (Kd.V_elder' (by (with_reducible repeat (first | apply v1_ | apply v2_ | apply v3_)); exact HO351.out) (Kd.R_base ho0) hb); have n3_ := a0_ (Kd.V_elder' (by (with_reducible repeat (first | apply v1_ | apply v2_ | apply v3_)); exact HO355.out) (Kd.R_base ho0) hb); have n4_ := a0_ (Kd.R_lower (Kd.R_mono (ok' := fun k_ => True) ho0 (fun _ hk_ => trivial)) (below_size (by repeat (first | (with_reducible first | exact HB.out | apply b1_ | apply b2_ | apply b3_ | refine b4_ ?_ GE328.out) | exact HB.out)))); have n5_ := a0_ (blk_below (g := gb328) (o := .cells #[.bool t348, .slice Ao142 t349.length co142] 26 (0, 0)) (by (with_reducible repeat (first | refine k1_ ?_ _ | refine k2_ ?_ | refine k3_ ?_ _)); exact BK328.out) hb); have n6_ := a0_ (below_step (by repeat (first | (with_reducible first | exact HB.out | apply b1_ | apply b2_ | apply b3_ | refine b4_ ?_ GE328.out) | exact HB.out)) hb); clear HO327; clear HO347; clear HO351; clear HO355; clear BK328; clear HB; have HO327 := n0_; have HO347 := n1_; have HO351 := n2_; have HO355 := n3_; have HO358 := n4_; have BK328 := n5_; have HB := n6_; clear n0_ n1_ n2_ n3_ n4_ n5_ n6_; (try clear hb); (try clear hb2); (try clear hk); (try clear hi); (try clear ho0)) | ((with_reducible refine gate_callee (f := 4) rfl ?_); refine goesL_ (some 68) rfl rfl Tryd.func4 (by kernel_rfl) rfl #[.int .i64 a0, .int .i64 a1, .int .i64 a2] rfl (by (try simp only [List.map_toArray, List.map_cons, List.map_nil]); first | done | rfl | (simp only [List.length_drop, List.length_take]; rfl)) ?_; (with_reducible refine (impl_UnitConvert.calls a0 a1 a2 t360 true _ A126.out (HTAB.out.below (by repeat (first | (with_reducible first | exact HB.out | apply b1_ | apply b2_ | apply b3_ | refine b4_ ?_ GE328.out) | exact HB.out)))).mono ?_); rintro e w147 ⟨rfl, hb⟩; refine ⟨_, rfl, ?_⟩; have n0_ := a0_ (Kd.V_below (by (with_reducible repeat (first | apply v1_ | apply v2_ | apply v3_)); exact HO327.out) hb); have n1_ := a0_ (Kd.V_below (by (with_reducible repeat (first | apply v1_ | apply v2_ | apply v3_)); exact HO347.out) hb); have n2_ := a0_ (Kd.V_below (by (with_reducible repeat (first | apply v1_ | apply v2_ | apply v3_)); exact HO351.out) hb); have n3_ := a0_ (Kd.V_below (by (with_reducible repeat (first | apply v1_ | apply v2_ | apply v3_)); exact HO355.out) hb); have n4_ := a0_ (Kd.R_below (by (with_reducible repeat (first | apply r1_ | apply r2_ | apply r3_)); exact HO358.out) hb); have n5_ := a0_ (blk_below (g := gb328) (o := .cells #[.bool t348, .slice Ao142 t349.length co142] 26 (0, 0)) (by (with_reducible repeat (first | refine k1_ ?_ _ | refine k2_ ?_ | refine k3_ ?_ _)); exact BK328.out) hb); have n6_ := a0_ (below_step (by repeat (first | (with_reducible first | exact HB.out | apply b1_ | apply b2_ | apply b3_ | refine b4_ ?_ GE328.out) | exact HB.out)) hb); clear HO327; clear HO347; clear HO351; clear HO355; clear HO358; clear BK328; clear HB; have HO327 := n0_; have HO347 := n1_; have HO351 := n2_; have HO355 := n3_; have HO358 := n4_; have BK328 := n5_; have HB := n6_; clear n0_ n1_ n2_ n3_ n4_ n5_ n6_; (try clear hb); (try clear hb2); (try clear hk); (try clear hi); obtain ⟨Ao148, co148, eo148⟩ := Kd.R_slice HO358.out; subst eo148; have p362 : 0 ≤ (0 : Int) := (by omega); have q362 : 0 < (t356.length : Int) := d1_ (by first | (with_reducible assumption) | assumption); obtain ⟨ad362, e362, hx362_0⟩ := Kd.at_int (Kd.R_reads' HO358.out).2.2 0 p362 q362; cases e362; have qi362 : (0 < t356.length) = True := eq_true (by omega); (try rw [show ((0 : Int)).toNat = 0 from rfl] at hx362_0); (try rw [Addr.add_zero'] at hx362_0); replace p362 := eq_true p362; replace q362 := eq_true q362))
          go_ret
          exact ⟨by first | rfl | (simp [e1_, e2_] <;> rfl) | (simp [*, e1_, e2_] <;> rfl), by repeat (first | (with_reducible first | exact HB.out | apply b1_ | apply b2_ | apply b3_ | refine b4_ ?_ GE328.out) | exact HB.out)⟩
         ·
          rw [if_neg c131] at H
          have c131b0 : (t322 == 1000) = false := beq_eq_false_iff_ne.mpr c131
          have c131b1 : (t322 != 1000) = true := bne_iff_ne.mpr c131
          obtain rfl := o1_ H
          try go_wp2_with (first | ((with_reducible refine gate_callee (f := 5) rfl ?_); refine goesL_ (some 38) rfl rfl Tryd.func5 (by kernel_rfl) rfl #[.int .i64 a2] rfl (by (try simp only [List.map_toArray, List.map_cons, List.map_nil]); first | done | rfl | (simp only [List.length_drop, List.length_take]; rfl)) ?_; (with_reducible refine (spec_WideInt.calls kj4 a2 t324 t325 _ A12.out).mono ?_); rintro e w149 ⟨v326, rfl, ho0, hb⟩; refine ⟨_, rfl, ?_⟩; have n0_ := a0_ (Kd.V_lower (v4_ (ok' := fun k_ => True) ho0 (fun k_ hk_ => trivial)) (below_size (by repeat (first | (with_reducible first | exact HB.out | apply b1_ | apply b2_ | apply b3_) | exact HB.out)))); have n1_ := a0_ (below_step (by repeat (first | (with_reducible first | exact HB.out | apply b1_ | apply b2_ | apply b3_) | exact HB.out)) hb); clear HB; have HO327 := n0_; have HB := n1_; clear n0_ n1_; (try clear hb); (try clear hb2); (try clear hk); (try clear hi); (try clear ho0)) | ((with_reducible refine gate_dst (N := 9) rfl ?_); refine box_event ?hg (N := 9) ?hd (cs := #[.bool false, .slice none 0 0]) (t := 26) ?hr ?_; (case hd => rfl); (case hg => rfl); (case hr => first | (go_simp; done) | (go_simp; rfl)); intro gb328 hg w150 hbox hb; have n0_ := a0_ (Kd.V_below (Kd.V_elderB (by (with_reducible repeat (first | apply v1_ | apply v2_ | apply v3_)); exact HO327.out) gb328 (Nat.le_of_eq hg.symm)) hb); have n1_ := a0_ (below_step (by repeat (first | (with_reducible first | exact HB.out | apply b1_ | apply b2_ | apply b3_) | exact HB.out)) hb); have n2_ := a0_ (hbox); have n3_ := a0_ ((by rw [hg]; exact (below_size (by repeat (first | (with_reducible first | exact HB.out | apply b1_ | apply b2_ | apply b3_) | exact HB.out))) : w.heap.size ≤ gb328)); have n4_ := a0_ ((by rw [hg]; exact (below_size (by repeat (first | (with_reducible first | exact HB.out | apply b1_ | apply b2_ | apply b3_) | exact HB.out))) : w.heap.size ≤ gb328)); clear HO327; clear HB; have HO327 := n0_; have HB := n1_; have BK328 := n2_; have GW328 := n3_; have GE328 := n4_; clear n0_ n1_ n2_ n3_ n4_; clear hb hbox hg; have hcz151_0 : w150.cell? ⟨gb328, 0, none⟩ = some (.bool false) := (blk_cell BK328.out 0).trans rfl; have hcz151_1 : w150.cell? ⟨gb328, 1, none⟩ = some (.slice none 0 0) := (blk_cell BK328.out 1).trans rfl; have hfz151_0 := blk_frozen BK328.out 0; have hfz151_1 := blk_frozen BK328.out 1; obtain ⟨Ao152, co152, eo152⟩ := Kd.V_slice HO327.out; subst eo152))
          have n0_ : Aside0 (Kd.V (Kd.int .u32) 40 ((w150.setCell ⟨gb328, 0, none⟩ (.bool t324)).setCell ⟨gb328, 1, none⟩ (.slice Ao152 t325.length co152)) w.heap.size (fun k_ => k_ ≠ gb328) (.slice Ao152 t325.length co152) t325) := ⟨by (with_reducible repeat (first | apply v1_ | apply v2_ | apply v3_)); exact v4_ (v5_ (p := ⟨gb328, 1, none⟩) (v5_ (p := ⟨gb328, 0, none⟩) (v4_ HO327.out (fun k_ hk => (⟨hk, hk.2⟩ : _ ∧ k_ ≠ gb328))) (fun _ hk => hk.2) (.bool t324)) (fun _ hk => hk.2) (.slice Ao152 t325.length co152)) (fun _ hk => hk.1.2)⟩
          have n1_ : Aside0 (((w150.setCell ⟨gb328, 0, none⟩ (.bool t324)).setCell ⟨gb328, 1, none⟩ (.slice Ao152 t325.length co152)).heap[gb328]? = some (.cells #[.bool t324, .slice Ao152 t325.length co152] 26 (0, 0))) := ⟨by (with_reducible repeat (first | refine k1_ ?_ _ | refine k2_ ?_ | refine k3_ ?_ _)); refine blk_put (cs := #[.bool t324, .slice none 0 0]) ?_ 1 _ rfl; (with_reducible repeat (first | refine k1_ ?_ _ | refine k2_ ?_ | refine k3_ ?_ _)); refine blk_put (cs := #[.bool false, .slice none 0 0]) ?_ 0 _ rfl; (with_reducible repeat (first | refine k1_ ?_ _ | refine k2_ ?_ | refine k3_ ?_ _)); exact BK328.out⟩
          have n2_ : Aside0 (Below w.heap.size w ((w150.setCell ⟨gb328, 0, none⟩ (.bool t324)).setCell ⟨gb328, 1, none⟩ (.slice Ao152 t325.length co152))) := ⟨by repeat (first | (with_reducible first | exact HB.out | apply b1_ | apply b2_ | apply b3_ | refine b4_ ?_ GE328.out) | exact HB.out)⟩
          (try clear HO327)
          (try clear BK328)
          (try clear HB)
          generalize ((w150.setCell ⟨gb328, 0, none⟩ (.bool t324)).setCell ⟨gb328, 1, none⟩ (.slice Ao152 t325.length co152)) = w153 at n0_ n1_ n2_ ⊢
          have HO327 := n0_
          have BK328 := n1_
          have HB := n2_
          clear n0_ n1_ n2_
          have n0_ := a0_ (v3_ HO327.out)
          have n1_ := a0_ (k2_ BK328.out)
          have n2_ := a0_ (b3_ HB.out)
          clear HO327
          clear BK328
          clear HB
          have HO327 := n0_
          have BK328 := n1_
          have HB := n2_
          clear n0_ n1_ n2_
          refine start_ (n := 11) (S := fun w' => w'.cell? ⟨gb328, 0, none⟩ = some (.bool t324) ∧ w'.cell? ⟨gb328, 1, none⟩ = some (.slice Ao152 t325.length co152)) (ds := [10]) #[false, false, false, false, false, false, false, false, false, false, false] (by kernel_rfl) rfl rfl ⟨(blk_cell BK328.out 0).trans rfl, (blk_cell BK328.out 1).trans rfl⟩ (fun hHeld => ?_); refine with_tabW laws_FnUnitConvert.tab7 laws_FnUnitConvert.bits7 (fun HT_ HW_ => ?_)
          generalize w153.drew = w154 at HO327 BK328 HB hHeld ⊢
          refine pure_ (i := 1) (N := some 51) (v := ?_) (a' := ?_) #[false, true, false, false, false, false, false, false, false, false, false] rfl rfl (any_of HT_.out (by kernel_rfl)) (fun _ _ _ h => h) (Or.inl ⟨by rfl, ?_⟩) ?_ ?_
          rotate_left
          ·
           intro w'
           go_simp
           with_reducible rfl
          rotate_left
          ·
           simp only [Act.put, s1_, s2_, s3_, i64_w, i32_w]
           rfl
          refine pure_ (i := 2) (N := some 52) (v := ?_) (a' := ?_) #[false, true, true, false, false, false, false, false, false, false, false] rfl rfl (any_of HT_.out (by kernel_rfl)) (fun _ _ _ h => h) (Or.inl ⟨by rfl, ?_⟩) ?_ ?_
          rotate_left
          ·
           intro w'
           go_simp
           with_reducible rfl
          rotate_left
          ·
           simp only [Act.put, s1_, s2_, s3_, i64_w, i32_w]
           rfl
          refine pure_ (i := 3) (N := some 53) (v := ?_) (a' := ?_) #[false, true, true, true, false, false, false, false, false, false, false] rfl rfl (any_of HT_.out (by kernel_rfl)) (fun _ _ _ h => h) (Or.inl ⟨by rfl, ?_⟩) ?_ ?_
          rotate_left
          ·
           intro w'
           go_simp
           with_reducible rfl
          rotate_left
          ·
           simp only [Act.put, s1_, s2_, s3_, i64_w, i32_w]
           rfl
          refine pure_ (i := 4) (N := some 54) (v := ?_) (a' := ?_) #[false, true, true, true, true, false, false, false, false, false, false] rfl rfl (any_of HT_.out (by kernel_rfl)) (fun _ _ _ h => h) (Or.inl ⟨by rfl, ?_⟩) ?_ ?_
          rotate_left
          ·
           intro w'
           go_simp
           with_reducible rfl
          rotate_left
          ·
           simp only [Act.put, s1_, s2_, s3_, i64_w, i32_w]
           rfl
          refine take_ (i := 0) (N := some 50) (v := ?_) (a' := ?_) #[true, true, true, true, true, false, false, false, false, false, false] rfl rfl (take_ofW HT_.out HW_.out (by kernel_rfl)) (fun _ _ _ h => h) (Or.inl ⟨by rfl, ?_⟩) hHeld ?_ ?_
          rotate_left
          ·
           rintro w' ⟨s0, s1⟩
           go_simp
           with_reducible rfl
          rotate_left
          ·
           simp only [Act.put, s1_, s2_, s3_, i64_w, i32_w]
           rfl
          refine one_ (i := 5) (N := some 55) #[true, true, true, true, true, true, false, false, false, false, false] rfl rfl (one_of HT_.out (by kernel_rfl)) (by decide) (fun K hK => ?_)
          refine goes_ Tryd.func7 (by kernel_rfl) rfl #[.int .i64 (wrap64 (3 * (wrap64 (a0 - a1))))] (by rfl) rfl rfl (by (try simp only [List.map_toArray, List.map_cons, List.map_nil]); first | done | rfl | (simp only [List.length_drop, List.length_take]; rfl)) ?_
          with_reducible refine (spec_Ten.calls kj4 (wrap64 (3 * (wrap64 (a0 - a1)))) t344 t345 _ A123.out).mono ?_
          rintro e w155 ⟨v346, rfl, ho0, hb⟩
          refine ⟨_, rfl, ?_⟩
          have n0_ := a0_ (Kd.V_below (by (with_reducible repeat (first | apply v1_ | apply v2_ | apply v3_)); exact HO327.out) hb)
          have n1_ := a0_ (Kd.V_lower (v4_ (ok' := fun k_ => k_ ≠ gb328) ho0 (fun k_ hk_ => (Kd.freshB (g := gb328) (o := .cells #[.bool t324, .slice Ao152 t325.length co152] 26 (0, 0)) (by (with_reducible repeat (first | refine k1_ ?_ _ | refine k2_ ?_ | refine k3_ ?_ _)); exact BK328.out) k_ hk_))) (below_size (by repeat (first | (with_reducible first | exact HB.out | apply b1_ | apply b2_ | apply b3_ | refine b4_ ?_ GE328.out) | exact HB.out))))
          have n2_ := a0_ (blk_below (g := gb328) (o := .cells #[.bool t324, .slice Ao152 t325.length co152] 26 (0, 0)) (by (with_reducible repeat (first | refine k1_ ?_ _ | refine k2_ ?_ | refine k3_ ?_ _)); exact BK328.out) hb)
          have n3_ := a0_ (below_step (by repeat (first | (with_reducible first | exact HB.out | apply b1_ | apply b2_ | apply b3_ | refine b4_ ?_ GE328.out) | exact HB.out)) hb)
          clear HO327
          clear BK328
          clear HB
          have HO327 := n0_
          have HO347 := n1_
          have BK328 := n2_
          have HB := n3_
          clear n0_ n1_ n2_ n3_
          (try clear hb)
          (try clear hb2)
          (try clear hk)
          (try clear hi)
          (try clear ho0)
          obtain ⟨Ao156, co156, eo156⟩ := Kd.V_slice HO347.out
          (first | subst eo156 | (injection eo156 with f1_ f2_ f3_; have f4_ := f1_.symm; have f5_ := f3_.symm; clear f1_ f2_ f3_; subst f4_; subst f5_))
          refine hK.out _ _ ⟨(blk_cell BK328.out 0).trans rfl, (blk_cell BK328.out 1).trans rfl⟩ (fun hHeld => ?_)
          clear hK K
          refine norm_ (a' := ?_) ?_ ?_
          rotate_left
          ·
           show Act.put _ (some 55) _ = _
           simp only [Act.put, s1_, s2_, s3_, i64_w, i32_w]
           rfl
          refine one_ (i := 6) (N := some 56) #[true, true, true, true, true, true, true, false, false, false, false] rfl rfl (one_of HT_.out (by kernel_rfl)) (by decide) (fun K hK => ?_)
          refine goes_ Tryd.func8 (by kernel_rfl) rfl #[.agg #[.bool t324, .slice Ao152 t325.length co152], .agg #[.bool t344, .slice Ao156 t345.length co156]] (by rfl) rfl rfl (by (try simp only [List.map_toArray, List.map_cons, List.map_nil]); first | done | rfl | (simp only [List.length_drop, List.length_take]; rfl)) ?_
          with_reducible refine (spec_WideDiv.calls kj4 t324 _ _ t325 t344 _ _ t345 t348 t349 t352 t353 _ ?side1 ?side2 ?side3 ?side4 A124.out).mono ?_
          (case side1 => repeat (first | exact (Kd.V_reads' HO327.out).2.2 | (with_reducible refine Kd.C_alloc ?_ _) | (with_reducible refine Kd.C_drewN ?_ _) | (with_reducible refine Kd.C_drew ?_)))
          (case side2 => exact (Kd.V_reads' HO327.out).2.1)
          (case side3 => repeat (first | exact (Kd.V_reads' HO347.out).2.2 | (with_reducible refine Kd.C_alloc ?_ _) | (with_reducible refine Kd.C_drewN ?_ _) | (with_reducible refine Kd.C_drew ?_)))
          (case side4 => exact (Kd.V_reads' HO347.out).2.1)
          rintro e w157 ⟨v350, v354, rfl, ho0, ho1, hb⟩
          refine ⟨_, rfl, ?_⟩
          have n0_ := a0_ (Kd.V_below (by (with_reducible repeat (first | apply v1_ | apply v2_ | apply v3_)); exact HO327.out) hb)
          have n1_ := a0_ (Kd.V_below (by (with_reducible repeat (first | apply v1_ | apply v2_ | apply v3_)); exact HO347.out) hb)
          have n2_ := a0_ (Kd.V_lower (v4_ (ok' := fun k_ => k_ ≠ gb328) ho0 (fun k_ hk_ => (Kd.freshB (g := gb328) (o := .cells #[.bool t324, .slice Ao152 t325.length co152] 26 (0, 0)) (by (with_reducible repeat (first | refine k1_ ?_ _ | refine k2_ ?_ | refine k3_ ?_ _)); exact BK328.out) k_ hk_))) (below_size (by repeat (first | (with_reducible first | exact HB.out | apply b1_ | apply b2_ | apply b3_ | refine b4_ ?_ GE328.out) | exact HB.out))))
          have n3_ := a0_ (Kd.V_lower (v4_ (ok' := fun k_ => k_ ≠ gb328) ho1 (fun k_ hk_ => (Kd.freshB (g := gb328) (o := .cells #[.bool t324, .slice Ao152 t325.length co152] 26 (0, 0)) (by (with_reducible repeat (first | refine k1_ ?_ _ | refine k2_ ?_ | refine k3_ ?_ _)); exact BK328.out) k_ hk_))) (below_size (by repeat (first | (with_reducible first | exact HB.out | apply b1_ | apply b2_ | apply b3_ | refine b4_ ?_ GE328.out) | exact HB.out))))
          have n4_ := a0_ (blk_below (g := gb328) (o := .cells #[.bool t324, .slice Ao152 t325.length co152] 26 (0, 0)) (by (with_reducible repeat (first | refine k1_ ?_ _ | refine k2_ ?_ | refine k3_ ?_ _)); exact BK328.out) hb)
          have n5_ := a0_ (below_step (by repeat (first | (with_reducible first | exact HB.out | apply b1_ | apply b2_ | apply b3_ | refine b4_ ?_ GE328.out) | exact HB.out)) hb)
          clear HO327
          clear HO347
          clear BK328
          clear HB
          have HO327 := n0_
          have HO347 := n1_
          have HO351 := n2_
          have HO355 := n3_
          have BK328 := n4_
          have HB := n5_
          clear n0_ n1_ n2_ n3_ n4_ n5_
          (try clear hb)
          (try clear hb2)
          (try clear hk)
          (try clear hi)
          (try clear ho0)
          (try clear ho1)
          obtain ⟨Ao159, co159, eo159⟩ := Kd.V_slice HO351.out
          (first | subst eo159 | (injection eo159 with f1_ f2_ f3_; have f4_ := f1_.symm; have f5_ := f3_.symm; clear f1_ f2_ f3_; subst f4_; subst f5_))
          refine hK.out _ _ ⟨(blk_cell BK328.out 0).trans rfl, (blk_cell BK328.out 1).trans rfl⟩ (fun hHeld => ?_)
          clear hK K
          refine norm_ (a' := ?_) ?_ ?_
          rotate_left
          ·
           show Act.put _ (some 56) _ = _
           simp only [Act.put, s1_, s2_, s3_, i64_w, i32_w]
           rfl
          refine pure_ (i := 7) (N := some 49) (v := ?_) (a' := ?_) #[true, true, true, true, true, true, true, true, false, false, false] rfl rfl (any_of HT_.out (by kernel_rfl)) (fun _ _ _ h => h) (Or.inl ⟨by rfl, ?_⟩) ?_ ?_
          rotate_left
          ·
           intro w'
           go_simp
           with_reducible rfl
          rotate_left
          ·
           simp only [Act.put, s1_, s2_, s3_, i64_w, i32_w]
           rfl
          refine pure_ (i := 8) (N := some 57) (v := ?_) (a' := ?_) #[true, true, true, true, true, true, true, true, true, false, false] rfl rfl (any_of HT_.out (by kernel_rfl)) (fun _ _ _ h => h) (Or.inl ⟨by rfl, ?_⟩) ?_ ?_
          rotate_left
          ·
           intro w'
           go_simp
           with_reducible rfl
          rotate_left
          ·
           simp only [Act.put, s1_, s2_, s3_, i64_w, i32_w]
           rfl
          refine pure_ (i := 9) (N := some 58) (v := ?_) (a' := ?_) #[true, true, true, true, true, true, true, true, true, true, false] rfl rfl (any_of HT_.out (by kernel_rfl)) (fun _ _ _ h => h) (Or.inl ⟨by rfl, ?_⟩) ?_ ?_
          rotate_left
          ·
           intro w'
           go_simp
           with_reducible rfl
          rotate_left
          ·
           simp only [Act.put, s1_, s2_, s3_, i64_w, i32_w]
           rfl
          refine last_ (i := 10) (N := none) #[true, true, true, true, true, true, true, true, true, true, true] rfl rfl (one_of HT_.out (by kernel_rfl)) (by decide) (fun K hK => ?_)
          have hs158 : w157.cell? ⟨gb328, 0, none⟩ = some (.bool t324) := (blk_cell BK328.out 0).trans rfl
          have hfs158 := blk_frozen BK328.out 0
          have hs160 : w157.cell? ⟨gb328, 1, none⟩ = some (.slice Ao152 t325.length co152) := (blk_cell BK328.out 1).trans rfl
          have hfs160 := blk_frozen BK328.out 1
          refine skip_ (w1 := ?_) (by rfl) rfl ?_ ?_
          rotate_left
          ·
           go_simp
           rfl
          refine hK.out _ _ ?_
          clear hK K
          refine done_ (done_of HT_.out (by kernel_rfl)) ?_
          have n0_ : Aside0 (Kd.V (Kd.int .u32) 40 ((w157.setCell ⟨gb328, 0, none⟩ (.bool t348)).setCell ⟨gb328, 1, none⟩ (.slice Ao159 t349.length co159)) w.heap.size (fun k_ => k_ ≠ gb328) (.slice Ao152 t325.length co152) t325) := ⟨by (with_reducible repeat (first | apply v1_ | apply v2_ | apply v3_)); exact v4_ (v5_ (p := ⟨gb328, 1, none⟩) (v5_ (p := ⟨gb328, 0, none⟩) (v4_ HO327.out (fun k_ hk => (⟨hk, hk⟩ : _ ∧ k_ ≠ gb328))) (fun _ hk => hk.2) (.bool t348)) (fun _ hk => hk.2) (.slice Ao159 t349.length co159)) (fun _ hk => hk.1)⟩
          have n1_ : Aside0 (Kd.V (Kd.int .u32) 40 ((w157.setCell ⟨gb328, 0, none⟩ (.bool t348)).setCell ⟨gb328, 1, none⟩ (.slice Ao159 t349.length co159)) w.heap.size (fun k_ => k_ ≠ gb328) (.slice Ao156 t345.length co156) t345) := ⟨by (with_reducible repeat (first | apply v1_ | apply v2_ | apply v3_)); exact v4_ (v5_ (p := ⟨gb328, 1, none⟩) (v5_ (p := ⟨gb328, 0, none⟩) (v4_ HO347.out (fun k_ hk => (⟨hk, hk⟩ : _ ∧ k_ ≠ gb328))) (fun _ hk => hk.2) (.bool t348)) (fun _ hk => hk.2) (.slice Ao159 t349.length co159)) (fun _ hk => hk.1)⟩
          have n2_ : Aside0 (Kd.V (Kd.int .u32) 40 ((w157.setCell ⟨gb328, 0, none⟩ (.bool t348)).setCell ⟨gb328, 1, none⟩ (.slice Ao159 t349.length co159)) w.heap.size (fun k_ => k_ ≠ gb328) (.slice Ao159 t349.length co159) t349) := ⟨by (with_reducible repeat (first | apply v1_ | apply v2_ | apply v3_)); exact v4_ (v5_ (p := ⟨gb328, 1, none⟩) (v5_ (p := ⟨gb328, 0, none⟩) (v4_ HO351.out (fun k_ hk => (⟨hk, hk⟩ : _ ∧ k_ ≠ gb328))) (fun _ hk => hk.2) (.bool t348)) (fun _ hk => hk.2) (.slice Ao159 t349.length co159)) (fun _ hk => hk.1)⟩
          have n3_ : Aside0 (Kd.V (Kd.int .u32) 40 ((w157.setCell ⟨gb328, 0, none⟩ (.bool t348)).setCell ⟨gb328, 1, none⟩ (.slice Ao159 t349.length co159)) w.heap.size (fun k_ => k_ ≠ gb328) v354 t353) := ⟨by (with_reducible repeat (first | apply v1_ | apply v2_ | apply v3_)); exact v4_ (v5_ (p := ⟨gb328, 1, none⟩) (v5_ (p := ⟨gb328, 0, none⟩) (v4_ HO355.out (fun k_ hk => (⟨hk, hk⟩ : _ ∧ k_ ≠ gb328))) (fun _ hk => hk.2) (.bool t348)) (fun _ hk => hk.2) (.slice Ao159 t349.length co159)) (fun _ hk => hk.1)⟩
          have n4_ : Aside0 (((w157.setCell ⟨gb328, 0, none⟩ (.bool t348)).setCell ⟨gb328, 1, none⟩ (.slice Ao159 t349.length co159)).heap[gb328]? = some (.cells #[.bool t348, .slice Ao159 t349.length co159] 26 (0, 0))) := ⟨by (with_reducible repeat (first | refine k1_ ?_ _ | refine k2_ ?_ | refine k3_ ?_ _)); refine blk_put (cs := #[.bool t348, .slice Ao152 t325.length co152]) ?_ 1 _ rfl; (with_reducible repeat (first | refine k1_ ?_ _ | refine k2_ ?_ | refine k3_ ?_ _)); refine blk_put (cs := #[.bool t324, .slice Ao152 t325.length co152]) ?_ 0 _ rfl; (with_reducible repeat (first | refine k1_ ?_ _ | refine k2_ ?_ | refine k3_ ?_ _)); exact BK328.out⟩
          have n5_ : Aside0 (Below w.heap.size w ((w157.setCell ⟨gb328, 0, none⟩ (.bool t348)).setCell ⟨gb328, 1, none⟩ (.slice Ao159 t349.length co159))) := ⟨by repeat (first | (with_reducible first | exact HB.out | apply b1_ | apply b2_ | apply b3_ | refine b4_ ?_ GE328.out) | exact HB.out)⟩
          (try clear HO327)
          (try clear HO347)
          (try clear HO351)
          (try clear HO355)
          (try clear BK328)
          (try clear HB)
          generalize ((w157.setCell ⟨gb328, 0, none⟩ (.bool t348)).setCell ⟨gb328, 1, none⟩ (.slice Ao159 t349.length co159)) = w161 at n0_ n1_ n2_ n3_ n4_ n5_ ⊢
          have HO327 := n0_
          have HO347 := n1_
          have HO351 := n2_
          have HO355 := n3_
          have BK328 := n4_
          have HB := n5_
          clear n0_ n1_ n2_ n3_ n4_ n5_
          have hcz162_0 : w161.cell? ⟨gb328, 0, none⟩ = some (.bool t348) := (blk_cell BK328.out 0).trans rfl
          have hcz162_1 : w161.cell? ⟨gb328, 1, none⟩ = some (.slice Ao159 t349.length co159) := (blk_cell BK328.out 1).trans rfl
          have hfz162_0 := blk_frozen BK328.out 0
          have hfz162_1 := blk_frozen BK328.out 1
          try go_wp2_with (first | ((with_reducible refine gate_callee (f := 9) rfl ?_); refine goesL_ (some 61) rfl rfl Tryd.func9 (by kernel_rfl) rfl #[.agg #[.bool t348, .slice Ao159 t349.length co159], .int .i64 1] rfl (by (try simp only [List.map_toArray, List.map_cons, List.map_nil]); first | done | rfl | (simp only [List.length_drop, List.length_take]; rfl)) ?_; (with_reducible refine (spec_ToWords.calls kj4 t348 (fun k_ => k_ ≠ gb328) _ _ t349 1 t356 true _ ?side1 A125.out).mono ?_); (case side1 => exact HO351.out); rintro e w163 ⟨v357, rfl, ho0, hb⟩; refine ⟨_, rfl, ?_⟩; have n0_ := a0_ (Kd.V_elder' (by (with_reducible repeat (first | apply v1_ | apply v2_ | apply v3_)); exact HO327.out) (Kd.R_base ho0) hb); have n1_ := a0_ (Kd.V_elder' (by (with_reducible repeat (first | apply v1_ | apply v2_ | apply v3_)); exact HO347.out) (Kd.R_base ho0) hb); have n2_ := a0_ (Kd.V_elder' (by (with_reducible repeat (first | apply v1_ | apply v2_ | apply v3_)); exact HO351.out) (Kd.R_base ho0) hb); have n3_ := a0_ (Kd.V_elder' (by (with_reducible repeat (first | apply v1_ | apply v2_ | apply v3_)); exact HO355.out) (Kd.R_base ho0) hb); have n4_ := a0_ (Kd.R_lower (Kd.R_mono (ok' := fun k_ => True) ho0 (fun _ hk_ => trivial)) (below_size (by repeat (first | (with_reducible first | exact HB.out | apply b1_ | apply b2_ | apply b3_ | refine b4_ ?_ GE328.out) | exact HB.out)))); have n5_ := a0_ (blk_below (g := gb328) (o := .cells #[.bool t348, .slice Ao159 t349.length co159] 26 (0, 0)) (by (with_reducible repeat (first | refine k1_ ?_ _ | refine k2_ ?_ | refine k3_ ?_ _)); exact BK328.out) hb); have n6_ := a0_ (below_step (by repeat (first | (with_reducible first | exact HB.out | apply b1_ | apply b2_ | apply b3_ | refine b4_ ?_ GE328.out) | exact HB.out)) hb); clear HO327; clear HO347; clear HO351; clear HO355; clear BK328; clear HB; have HO327 := n0_; have HO347 := n1_; have HO351 := n2_; have HO355 := n3_; have HO358 := n4_; have BK328 := n5_; have HB := n6_; clear n0_ n1_ n2_ n3_ n4_ n5_ n6_; (try clear hb); (try clear hb2); (try clear hk); (try clear hi); (try clear ho0)) | ((with_reducible refine gate_callee (f := 4) rfl ?_); refine goesL_ (some 68) rfl rfl Tryd.func4 (by kernel_rfl) rfl #[.int .i64 a0, .int .i64 a1, .int .i64 a2] rfl (by (try simp only [List.map_toArray, List.map_cons, List.map_nil]); first | done | rfl | (simp only [List.length_drop, List.length_take]; rfl)) ?_; (with_reducible refine (impl_UnitConvert.calls a0 a1 a2 t360 true _ A126.out (HTAB.out.below (by repeat (first | (with_reducible first | exact HB.out | apply b1_ | apply b2_ | apply b3_ | refine b4_ ?_ GE328.out) | exact HB.out)))).mono ?_); rintro e w164 ⟨rfl, hb⟩; refine ⟨_, rfl, ?_⟩; have n0_ := a0_ (Kd.V_below (by (with_reducible repeat (first | apply v1_ | apply v2_ | apply v3_)); exact HO327.out) hb); have n1_ := a0_ (Kd.V_below (by (with_reducible repeat (first | apply v1_ | apply v2_ | apply v3_)); exact HO347.out) hb); have n2_ := a0_ (Kd.V_below (by (with_reducible repeat (first | apply v1_ | apply v2_ | apply v3_)); exact HO351.out) hb); have n3_ := a0_ (Kd.V_below (by (with_reducible repeat (first | apply v1_ | apply v2_ | apply v3_)); exact HO355.out) hb); have n4_ := a0_ (Kd.R_below (by (with_reducible repeat (first | apply r1_ | apply r2_ | apply r3_)); exact HO358.out) hb); have n5_ := a0_ (blk_below (g := gb328) (o := .cells #[.bool t348, .slice Ao159 t349.length co159] 26 (0, 0)) (by (with_reducible repeat (first | refine k1_ ?_ _ | refine k2_ ?_ | refine k3_ ?_ _)); exact BK328.out) hb); have n6_ := a0_ (below_step (by repeat (first | (with_reducible first | exact HB.out | apply b1_ | apply b2_ | apply b3_ | refine b4_ ?_ GE328.out) | exact HB.out)) hb); clear HO327; clear HO347; clear HO351; clear HO355; clear HO358; clear BK328; clear HB; have HO327 := n0_; have HO347 := n1_; have HO351 := n2_; have HO355 := n3_; have HO358 := n4_; have BK328 := n5_; have HB := n6_; clear n0_ n1_ n2_ n3_ n4_ n5_ n6_; (try clear hb); (try clear hb2); (try clear hk); (try clear hi); obtain ⟨Ao165, co165, eo165⟩ := Kd.R_slice HO358.out; subst eo165; have p362 : 0 ≤ (0 : Int) := (by omega); have q362 : 0 < (t356.length : Int) := d1_ (by first | (with_reducible assumption) | assumption); obtain ⟨ad362, e362, hx362_0⟩ := Kd.at_int (Kd.R_reads' HO358.out).2.2 0 p362 q362; cases e362; have qi362 : (0 < t356.length) = True := eq_true (by omega); (try rw [show ((0 : Int)).toNat = 0 from rfl] at hx362_0); (try rw [Addr.add_zero'] at hx362_0); replace p362 := eq_true p362; replace q362 := eq_true q362))
          go_ret
          exact ⟨by first | rfl | (simp [e1_, e2_] <;> rfl) | (simp [*, e1_, e2_] <;> rfl), by repeat (first | (with_reducible first | exact HB.out | apply b1_ | apply b2_ | apply b3_ | refine b4_ ?_ GE328.out) | exact HB.out)⟩
        ·
         rw [if_neg c130] at H
         have c130b0 : (t360 == (wrap64 (rd t356 0))) = false := beq_eq_false_iff_ne.mpr c130
         have c130b1 : (t360 != (wrap64 (rd t356 0))) = true := bne_iff_ne.mpr c130
         obtain rfl := o1_ H
         try go_wp2_with (first | ((with_reducible refine gate_callee (f := 5) rfl ?_); refine goesL_ (some 38) rfl rfl Tryd.func5 (by kernel_rfl) rfl #[.int .i64 a2] rfl (by (try simp only [List.map_toArray, List.map_cons, List.map_nil]); first | done | rfl | (simp only [List.length_drop, List.length_take]; rfl)) ?_; (with_reducible refine (spec_WideInt.calls kj4 a2 t324 t325 _ A12.out).mono ?_); rintro e w166 ⟨v326, rfl, ho0, hb⟩; refine ⟨_, rfl, ?_⟩; have n0_ := a0_ (Kd.V_lower (v4_ (ok' := fun k_ => True) ho0 (fun k_ hk_ => trivial)) (below_size (by repeat (first | (with_reducible first | exact HB.out | apply b1_ | apply b2_ | apply b3_) | exact HB.out)))); have n1_ := a0_ (below_step (by repeat (first | (with_reducible first | exact HB.out | apply b1_ | apply b2_ | apply b3_) | exact HB.out)) hb); clear HB; have HO327 := n0_; have HB := n1_; clear n0_ n1_; (try clear hb); (try clear hb2); (try clear hk); (try clear hi); (try clear ho0)) | ((with_reducible refine gate_dst (N := 9) rfl ?_); refine box_event ?hg (N := 9) ?hd (cs := #[.bool false, .slice none 0 0]) (t := 26) ?hr ?_; (case hd => rfl); (case hg => rfl); (case hr => first | (go_simp; done) | (go_simp; rfl)); intro gb328 hg w167 hbox hb; have n0_ := a0_ (Kd.V_below (Kd.V_elderB (by (with_reducible repeat (first | apply v1_ | apply v2_ | apply v3_)); exact HO327.out) gb328 (Nat.le_of_eq hg.symm)) hb); have n1_ := a0_ (below_step (by repeat (first | (with_reducible first | exact HB.out | apply b1_ | apply b2_ | apply b3_) | exact HB.out)) hb); have n2_ := a0_ (hbox); have n3_ := a0_ ((by rw [hg]; exact (below_size (by repeat (first | (with_reducible first | exact HB.out | apply b1_ | apply b2_ | apply b3_) | exact HB.out))) : w.heap.size ≤ gb328)); have n4_ := a0_ ((by rw [hg]; exact (below_size (by repeat (first | (with_reducible first | exact HB.out | apply b1_ | apply b2_ | apply b3_) | exact HB.out))) : w.heap.size ≤ gb328)); clear HO327; clear HB; have HO327 := n0_; have HB := n1_; have BK328 := n2_; have GW328 := n3_; have GE328 := n4_; clear n0_ n1_ n2_ n3_ n4_; clear hb hbox hg; have hcz168_0 : w167.cell? ⟨gb328, 0, none⟩ = some (.bool false) := (blk_cell BK328.out 0).trans rfl; have hcz168_1 : w167.cell? ⟨gb328, 1, none⟩ = some (.slice none 0 0) := (blk_cell BK328.out 1).trans rfl; have hfz168_0 := blk_frozen BK328.out 0; have hfz168_1 := blk_frozen BK328.out 1; obtain ⟨Ao169, co169, eo169⟩ := Kd.V_slice HO327.out; subst eo169))
         have n0_ : Aside0 (Kd.V (Kd.int .u32) 40 ((w167.setCell ⟨gb328, 0, none⟩ (.bool t324)).setCell ⟨gb328, 1, none⟩ (.slice Ao169 t325.length co169)) w.heap.size (fun k_ => k_ ≠ gb328) (.slice Ao169 t325.length co169) t325) := ⟨by (with_reducible repeat (first | apply v1_ | apply v2_ | apply v3_)); exact v4_ (v5_ (p := ⟨gb328, 1, none⟩) (v5_ (p := ⟨gb328, 0, none⟩) (v4_ HO327.out (fun k_ hk => (⟨hk, hk.2⟩ : _ ∧ k_ ≠ gb328))) (fun _ hk => hk.2) (.bool t324)) (fun _ hk => hk.2) (.slice Ao169 t325.length co169)) (fun _ hk => hk.1.2)⟩
         have n1_ : Aside0 (((w167.setCell ⟨gb328, 0, none⟩ (.bool t324)).setCell ⟨gb328, 1, none⟩ (.slice Ao169 t325.length co169)).heap[gb328]? = some (.cells #[.bool t324, .slice Ao169 t325.length co169] 26 (0, 0))) := ⟨by (with_reducible repeat (first | refine k1_ ?_ _ | refine k2_ ?_ | refine k3_ ?_ _)); refine blk_put (cs := #[.bool t324, .slice none 0 0]) ?_ 1 _ rfl; (with_reducible repeat (first | refine k1_ ?_ _ | refine k2_ ?_ | refine k3_ ?_ _)); refine blk_put (cs := #[.bool false, .slice none 0 0]) ?_ 0 _ rfl; (with_reducible repeat (first | refine k1_ ?_ _ | refine k2_ ?_ | refine k3_ ?_ _)); exact BK328.out⟩
         have n2_ : Aside0 (Below w.heap.size w ((w167.setCell ⟨gb328, 0, none⟩ (.bool t324)).setCell ⟨gb328, 1, none⟩ (.slice Ao169 t325.length co169))) := ⟨by repeat (first | (with_reducible first | exact HB.out | apply b1_ | apply b2_ | apply b3_ | refine b4_ ?_ GE328.out) | exact HB.out)⟩
         (try clear HO327)
         (try clear BK328)
         (try clear HB)
         generalize ((w167.setCell ⟨gb328, 0, none⟩ (.bool t324)).setCell ⟨gb328, 1, none⟩ (.slice Ao169 t325.length co169)) = w170 at n0_ n1_ n2_ ⊢
         have HO327 := n0_
         have BK328 := n1_
         have HB := n2_
         clear n0_ n1_ n2_
         have n0_ := a0_ (v3_ HO327.out)
         have n1_ := a0_ (k2_ BK328.out)
         have n2_ := a0_ (b3_ HB.out)
         clear HO327
         clear BK328
         clear HB
         have HO327 := n0_
         have BK328 := n1_
         have HB := n2_
         clear n0_ n1_ n2_
         refine start_ (n := 11) (S := fun w' => w'.cell? ⟨gb328, 0, none⟩ = some (.bool t324) ∧ w'.cell? ⟨gb328, 1, none⟩ = some (.slice Ao169 t325.length co169)) (ds := [10]) #[false, false, false, false, false, false, false, false, false, false, false] (by kernel_rfl) rfl rfl ⟨(blk_cell BK328.out 0).trans rfl, (blk_cell BK328.out 1).trans rfl⟩ (fun hHeld => ?_); refine with_tabW laws_FnUnitConvert.tab7 laws_FnUnitConvert.bits7 (fun HT_ HW_ => ?_)
         generalize w170.drew = w171 at HO327 BK328 HB hHeld ⊢
         refine pure_ (i := 1) (N := some 51) (v := ?_) (a' := ?_) #[false, true, false, false, false, false, false, false, false, false, false] rfl rfl (any_of HT_.out (by kernel_rfl)) (fun _ _ _ h => h) (Or.inl ⟨by rfl, ?_⟩) ?_ ?_
         rotate_left
         ·
          intro w'
          go_simp
          with_reducible rfl
         rotate_left
         ·
          simp only [Act.put, s1_, s2_, s3_, i64_w, i32_w]
          rfl
         refine pure_ (i := 2) (N := some 52) (v := ?_) (a' := ?_) #[false, true, true, false, false, false, false, false, false, false, false] rfl rfl (any_of HT_.out (by kernel_rfl)) (fun _ _ _ h => h) (Or.inl ⟨by rfl, ?_⟩) ?_ ?_
         rotate_left
         ·
          intro w'
          go_simp
          with_reducible rfl
         rotate_left
         ·
          simp only [Act.put, s1_, s2_, s3_, i64_w, i32_w]
          rfl
         refine pure_ (i := 3) (N := some 53) (v := ?_) (a' := ?_) #[false, true, true, true, false, false, false, false, false, false, false] rfl rfl (any_of HT_.out (by kernel_rfl)) (fun _ _ _ h => h) (Or.inl ⟨by rfl, ?_⟩) ?_ ?_
         rotate_left
         ·
          intro w'
          go_simp
          with_reducible rfl
         rotate_left
         ·
          simp only [Act.put, s1_, s2_, s3_, i64_w, i32_w]
          rfl
         refine pure_ (i := 4) (N := some 54) (v := ?_) (a' := ?_) #[false, true, true, true, true, false, false, false, false, false, false] rfl rfl (any_of HT_.out (by kernel_rfl)) (fun _ _ _ h => h) (Or.inl ⟨by rfl, ?_⟩) ?_ ?_
         rotate_left
         ·
          intro w'
          go_simp
          with_reducible rfl
         rotate_left
         ·
          simp only [Act.put, s1_, s2_, s3_, i64_w, i32_w]
          rfl
         refine take_ (i := 0) (N := some 50) (v := ?_) (a' := ?_) #[true, true, true, true, true, false, false, false, false, false, false] rfl rfl (take_ofW HT_.out HW_.out (by kernel_rfl)) (fun _ _ _ h => h) (Or.inl ⟨by rfl, ?_⟩) hHeld ?_ ?_
         rotate_left
         ·
          rintro w' ⟨s0, s1⟩
          go_simp
          with_reducible rfl
         rotate_left
         ·
          simp only [Act.put, s1_, s2_, s3_, i64_w, i32_w]
          rfl
         refine one_ (i := 5) (N := some 55) #[true, true, true, true, true, true, false, false, false, false, false] rfl rfl (one_of HT_.out (by kernel_rfl)) (by decide) (fun K hK => ?_)
         refine goes_ Tryd.func7 (by kernel_rfl) rfl #[.int .i64 (wrap64 (3 * (wrap64 (a0 - a1))))] (by rfl) rfl rfl (by (try simp only [List.map_toArray, List.map_cons, List.map_nil]); first | done | rfl | (simp only [List.length_drop, List.length_take]; rfl)) ?_
         with_reducible refine (spec_Ten.calls kj4 (wrap64 (3 * (wrap64 (a0 - a1)))) t344 t345 _ A123.out).mono ?_
         rintro e w172 ⟨v346, rfl, ho0, hb⟩
         refine ⟨_, rfl, ?_⟩
         have n0_ := a0_ (Kd.V_below (by (with_reducible repeat (first | apply v1_ | apply v2_ | apply v3_)); exact HO327.out) hb)
         have n1_ := a0_ (Kd.V_lower (v4_ (ok' := fun k_ => k_ ≠ gb328) ho0 (fun k_ hk_ => (Kd.freshB (g := gb328) (o := .cells #[.bool t324, .slice Ao169 t325.length co169] 26 (0, 0)) (by (with_reducible repeat (first | refine k1_ ?_ _ | refine k2_ ?_ | refine k3_ ?_ _)); exact BK328.out) k_ hk_))) (below_size (by repeat (first | (with_reducible first | exact HB.out | apply b1_ | apply b2_ | apply b3_ | refine b4_ ?_ GE328.out) | exact HB.out))))
         have n2_ := a0_ (blk_below (g := gb328) (o := .cells #[.bool t324, .slice Ao169 t325.length co169] 26 (0, 0)) (by (with_reducible repeat (first | refine k1_ ?_ _ | refine k2_ ?_ | refine k3_ ?_ _)); exact BK328.out) hb)
         have n3_ := a0_ (below_step (by repeat (first | (with_reducible first | exact HB.out | apply b1_ | apply b2_ | apply b3_ | refine b4_ ?_ GE328.out) | exact HB.out)) hb)
         clear HO327
         clear BK328
         clear HB
         have HO327 := n0_
         have HO347 := n1_
         have BK328 := n2_
         have HB := n3_
         clear n0_ n1_ n2_ n3_
         (try clear hb)
         (try clear hb2)
         (try clear hk)
         (try clear hi)
         (try clear ho0)
         obtain ⟨Ao173, co173, eo173⟩ := Kd.V_slice HO347.out
         (first | subst eo173 | (injection eo173 with f1_ f2_ f3_; have f4_ := f1_.symm; have f5_ := f3_.symm; clear f1_ f2_ f3_; subst f4_; subst f5_))
         refine hK.out _ _ ⟨(blk_cell BK328.out 0).trans rfl, (blk_cell BK328.out 1).trans rfl⟩ (fun hHeld => ?_)
         clear hK K
         refine norm_ (a' := ?_) ?_ ?_
         rotate_left
         ·
          show Act.put _ (some 55) _ = _
          simp only [Act.put, s1_, s2_, s3_, i64_w, i32_w]
          rfl
         refine one_ (i := 6) (N := some 56) #[true, true, true, true, true, true, true, false, false, false, false] rfl rfl (one_of HT_.out (by kernel_rfl)) (by decide) (fun K hK => ?_)
         refine goes_ Tryd.func8 (by kernel_rfl) rfl #[.agg #[.bool t324, .slice Ao169 t325.length co169], .agg #[.bool t344, .slice Ao173 t345.length co173]] (by rfl) rfl rfl (by (try simp only [List.map_toArray, List.map_cons, List.map_nil]); first | done | rfl | (simp only [List.length_drop, List.length_take]; rfl)) ?_
         with_reducible refine (spec_WideDiv.calls kj4 t324 _ _ t325 t344 _ _ t345 t348 t349 t352 t353 _ ?side1 ?side2 ?side3 ?side4 A124.out).mono ?_
         (case side1 => repeat (first | exact (Kd.V_reads' HO327.out).2.2 | (with_reducible refine Kd.C_alloc ?_ _) | (with_reducible refine Kd.C_drewN ?_ _) | (with_reducible refine Kd.C_drew ?_)))
         (case side2 => exact (Kd.V_reads' HO327.out).2.1)
         (case side3 => repeat (first | exact (Kd.V_reads' HO347.out).2.2 | (with_reducible refine Kd.C_alloc ?_ _) | (with_reducible refine Kd.C_drewN ?_ _) | (with_reducible refine Kd.C_drew ?_)))
         (case side4 => exact (Kd.V_reads' HO347.out).2.1)
         rintro e w174 ⟨v350, v354, rfl, ho0, ho1, hb⟩
         refine ⟨_, rfl, ?_⟩
         have n0_ := a0_ (Kd.V_below (by (with_reducible repeat (first | apply v1_ | apply v2_ | apply v3_)); exact HO327.out) hb)
         have n1_ := a0_ (Kd.V_below (by (with_reducible repeat (first | apply v1_ | apply v2_ | apply v3_)); exact HO347.out) hb)
         have n2_ := a0_ (Kd.V_lower (v4_ (ok' := fun k_ => k_ ≠ gb328) ho0 (fun k_ hk_ => (Kd.freshB (g := gb328) (o := .cells #[.bool t324, .slice Ao169 t325.length co169] 26 (0, 0)) (by (with_reducible repeat (first | refine k1_ ?_ _ | refine k2_ ?_ | refine k3_ ?_ _)); exact BK328.out) k_ hk_))) (below_size (by repeat (first | (with_reducible first | exact HB.out | apply b1_ | apply b2_ | apply b3_ | refine b4_ ?_ GE328.out) | exact HB.out))))
         have n3_ := a0_ (Kd.V_lower (v4_ (ok' := fun k_ => k_ ≠ gb328) ho1 (fun k_ hk_ => (Kd.freshB (g := gb328) (o := .cells #[.bool t324, .slice Ao169 t325.length co169] 26 (0, 0)) (by (with_reducible repeat (first | refine k1_ ?_ _ | refine k2_ ?_ | refine k3_ ?_ _)); exact BK328.out) k_ hk_))) (below_size (by repeat (first | (with_reducible first | exact HB.out | apply b1_ | apply b2_ | apply b3_ | refine b4_ ?_ GE328.out) | exact HB.out))))
         have n4_ := a0_ (blk_below (g := gb328) (o := .cells #[.bool t324, .slice Ao169 t325.length co169] 26 (0, 0)) (by (with_reducible repeat (first | refine k1_ ?_ _ | refine k2_ ?_ | refine k3_ ?_ _)); exact BK328.out) hb)
         have n5_ := a0_ (below_step (by repeat (first | (with_reducible first | exact HB.out | apply b1_ | apply b2_ | apply b3_ | refine b4_ ?_ GE328.out) | exact HB.out)) hb)
         clear HO327
         clear HO347
         clear BK328
         clear HB
         have HO327 := n0_
         have HO347 := n1_
         have HO351 := n2_
         have HO355 := n3_
         have BK328 := n4_
         have HB := n5_
         clear n0_ n1_ n2_ n3_ n4_ n5_
         (try clear hb)
         (try clear hb2)
         (try clear hk)
         (try clear hi)
         (try clear ho0)
         (try clear ho1)
         obtain ⟨Ao176, co176, eo176⟩ := Kd.V_slice HO351.out
         (first | subst eo176 | (injection eo176 with f1_ f2_ f3_; have f4_ := f1_.symm; have f5_ := f3_.symm; clear f1_ f2_ f3_; subst f4_; subst f5_))
         refine hK.out _ _ ⟨(blk_cell BK328.out 0).trans rfl, (blk_cell BK328.out 1).trans rfl⟩ (fun hHeld => ?_)
         clear hK K
         refine norm_ (a' := ?_) ?_ ?_
         rotate_left
         ·
          show Act.put _ (some 56) _ = _
          simp only [Act.put, s1_, s2_, s3_, i64_w, i32_w]
          rfl
         refine pure_ (i := 7) (N := some 49) (v := ?_) (a' := ?_) #[true, true, true, true, true, true, true, true, false, false, false] rfl rfl (any_of HT_.out (by kernel_rfl)) (fun _ _ _ h => h) (Or.inl ⟨by rfl, ?_⟩) ?_ ?_
         rotate_left
         ·
          intro w'
          go_simp
          with_reducible rfl
         rotate_left
         ·
          simp only [Act.put, s1_, s2_, s3_, i64_w, i32_w]
          rfl
         refine pure_ (i := 8) (N := some 57) (v := ?_) (a' := ?_) #[true, true, true, true, true, true, true, true, true, false, false] rfl rfl (any_of HT_.out (by kernel_rfl)) (fun _ _ _ h => h) (Or.inl ⟨by rfl, ?_⟩) ?_ ?_
         rotate_left
         ·
          intro w'
          go_simp
          with_reducible rfl
         rotate_left
         ·
          simp only [Act.put, s1_, s2_, s3_, i64_w, i32_w]
          rfl
         refine pure_ (i := 9) (N := some 58) (v := ?_) (a' := ?_) #[true, true, true, true, true, true, true, true, true, true, false] rfl rfl (any_of HT_.out (by kernel_rfl)) (fun _ _ _ h => h) (Or.inl ⟨by rfl, ?_⟩) ?_ ?_
         rotate_left
         ·
          intro w'
          go_simp
          with_reducible rfl
         rotate_left
         ·
          simp only [Act.put, s1_, s2_, s3_, i64_w, i32_w]
          rfl
         refine last_ (i := 10) (N := none) #[true, true, true, true, true, true, true, true, true, true, true] rfl rfl (one_of HT_.out (by kernel_rfl)) (by decide) (fun K hK => ?_)
         have hs175 : w174.cell? ⟨gb328, 0, none⟩ = some (.bool t324) := (blk_cell BK328.out 0).trans rfl
         have hfs175 := blk_frozen BK328.out 0
         have hs177 : w174.cell? ⟨gb328, 1, none⟩ = some (.slice Ao169 t325.length co169) := (blk_cell BK328.out 1).trans rfl
         have hfs177 := blk_frozen BK328.out 1
         refine skip_ (w1 := ?_) (by rfl) rfl ?_ ?_
         rotate_left
         ·
          go_simp
          rfl
         refine hK.out _ _ ?_
         clear hK K
         refine done_ (done_of HT_.out (by kernel_rfl)) ?_
         have n0_ : Aside0 (Kd.V (Kd.int .u32) 40 ((w174.setCell ⟨gb328, 0, none⟩ (.bool t348)).setCell ⟨gb328, 1, none⟩ (.slice Ao176 t349.length co176)) w.heap.size (fun k_ => k_ ≠ gb328) (.slice Ao169 t325.length co169) t325) := ⟨by (with_reducible repeat (first | apply v1_ | apply v2_ | apply v3_)); exact v4_ (v5_ (p := ⟨gb328, 1, none⟩) (v5_ (p := ⟨gb328, 0, none⟩) (v4_ HO327.out (fun k_ hk => (⟨hk, hk⟩ : _ ∧ k_ ≠ gb328))) (fun _ hk => hk.2) (.bool t348)) (fun _ hk => hk.2) (.slice Ao176 t349.length co176)) (fun _ hk => hk.1)⟩
         have n1_ : Aside0 (Kd.V (Kd.int .u32) 40 ((w174.setCell ⟨gb328, 0, none⟩ (.bool t348)).setCell ⟨gb328, 1, none⟩ (.slice Ao176 t349.length co176)) w.heap.size (fun k_ => k_ ≠ gb328) (.slice Ao173 t345.length co173) t345) := ⟨by (with_reducible repeat (first | apply v1_ | apply v2_ | apply v3_)); exact v4_ (v5_ (p := ⟨gb328, 1, none⟩) (v5_ (p := ⟨gb328, 0, none⟩) (v4_ HO347.out (fun k_ hk => (⟨hk, hk⟩ : _ ∧ k_ ≠ gb328))) (fun _ hk => hk.2) (.bool t348)) (fun _ hk => hk.2) (.slice Ao176 t349.length co176)) (fun _ hk => hk.1)⟩
         have n2_ : Aside0 (Kd.V (Kd.int .u32) 40 ((w174.setCell ⟨gb328, 0, none⟩ (.bool t348)).setCell ⟨gb328, 1, none⟩ (.slice Ao176 t349.length co176)) w.heap.size (fun k_ => k_ ≠ gb328) (.slice Ao176 t349.length co176) t349) := ⟨by (with_reducible repeat (first | apply v1_ | apply v2_ | apply v3_)); exact v4_ (v5_ (p := ⟨gb328, 1, none⟩) (v5_ (p := ⟨gb328, 0, none⟩) (v4_ HO351.out (fun k_ hk => (⟨hk, hk⟩ : _ ∧ k_ ≠ gb328))) (fun _ hk => hk.2) (.bool t348)) (fun _ hk => hk.2) (.slice Ao176 t349.length co176)) (fun _ hk => hk.1)⟩
         have n3_ : Aside0 (Kd.V (Kd.int .u32) 40 ((w174.setCell ⟨gb328, 0, none⟩ (.bool t348)).setCell ⟨gb328, 1, none⟩ (.slice Ao176 t349.length co176)) w.heap.size (fun k_ => k_ ≠ gb328) v354 t353) := ⟨by (with_reducible repeat (first | apply v1_ | apply v2_ | apply v3_)); exact v4_ (v5_ (p := ⟨gb328, 1, none⟩) (v5_ (p := ⟨gb328, 0, none⟩) (v4_ HO355.out (fun k_ hk => (⟨hk, hk⟩ : _ ∧ k_ ≠ gb328))) (fun _ hk => hk.2) (.bool t348)) (fun _ hk => hk.2) (.slice Ao176 t349.length co176)) (fun _ hk => hk.1)⟩
         have n4_ : Aside0 (((w174.setCell ⟨gb328, 0, none⟩ (.bool t348)).setCell ⟨gb328, 1, none⟩ (.slice Ao176 t349.length co176)).heap[gb328]? = some (.cells #[.bool t348, .slice Ao176 t349.length co176] 26 (0, 0))) := ⟨by (with_reducible repeat (first | refine k1_ ?_ _ | refine k2_ ?_ | refine k3_ ?_ _)); refine blk_put (cs := #[.bool t348, .slice Ao169 t325.length co169]) ?_ 1 _ rfl; (with_reducible repeat (first | refine k1_ ?_ _ | refine k2_ ?_ | refine k3_ ?_ _)); refine blk_put (cs := #[.bool t324, .slice Ao169 t325.length co169]) ?_ 0 _ rfl; (with_reducible repeat (first | refine k1_ ?_ _ | refine k2_ ?_ | refine k3_ ?_ _)); exact BK328.out⟩
         have n5_ : Aside0 (Below w.heap.size w ((w174.setCell ⟨gb328, 0, none⟩ (.bool t348)).setCell ⟨gb328, 1, none⟩ (.slice Ao176 t349.length co176))) := ⟨by repeat (first | (with_reducible first | exact HB.out | apply b1_ | apply b2_ | apply b3_ | refine b4_ ?_ GE328.out) | exact HB.out)⟩
         (try clear HO327)
         (try clear HO347)
         (try clear HO351)
         (try clear HO355)
         (try clear BK328)
         (try clear HB)
         generalize ((w174.setCell ⟨gb328, 0, none⟩ (.bool t348)).setCell ⟨gb328, 1, none⟩ (.slice Ao176 t349.length co176)) = w178 at n0_ n1_ n2_ n3_ n4_ n5_ ⊢
         have HO327 := n0_
         have HO347 := n1_
         have HO351 := n2_
         have HO355 := n3_
         have BK328 := n4_
         have HB := n5_
         clear n0_ n1_ n2_ n3_ n4_ n5_
         have hcz179_0 : w178.cell? ⟨gb328, 0, none⟩ = some (.bool t348) := (blk_cell BK328.out 0).trans rfl
         have hcz179_1 : w178.cell? ⟨gb328, 1, none⟩ = some (.slice Ao176 t349.length co176) := (blk_cell BK328.out 1).trans rfl
         have hfz179_0 := blk_frozen BK328.out 0
         have hfz179_1 := blk_frozen BK328.out 1
         try go_wp2_with (first | ((with_reducible refine gate_callee (f := 9) rfl ?_); refine goesL_ (some 61) rfl rfl Tryd.func9 (by kernel_rfl) rfl #[.agg #[.bool t348, .slice Ao176 t349.length co176], .int .i64 1] rfl (by (try simp only [List.map_toArray, List.map_cons, List.map_nil]); first | done | rfl | (simp only [List.length_drop, List.length_take]; rfl)) ?_; (with_reducible refine (spec_ToWords.calls kj4 t348 (fun k_ => k_ ≠ gb328) _ _ t349 1 t356 true _ ?side1 A125.out).mono ?_); (case side1 => exact HO351.out); rintro e w180 ⟨v357, rfl, ho0, hb⟩; refine ⟨_, rfl, ?_⟩; have n0_ := a0_ (Kd.V_elder' (by (with_reducible repeat (first | apply v1_ | apply v2_ | apply v3_)); exact HO327.out) (Kd.R_base ho0) hb); have n1_ := a0_ (Kd.V_elder' (by (with_reducible repeat (first | apply v1_ | apply v2_ | apply v3_)); exact HO347.out) (Kd.R_base ho0) hb); have n2_ := a0_ (Kd.V_elder' (by (with_reducible repeat (first | apply v1_ | apply v2_ | apply v3_)); exact HO351.out) (Kd.R_base ho0) hb); have n3_ := a0_ (Kd.V_elder' (by (with_reducible repeat (first | apply v1_ | apply v2_ | apply v3_)); exact HO355.out) (Kd.R_base ho0) hb); have n4_ := a0_ (Kd.R_lower (Kd.R_mono (ok' := fun k_ => True) ho0 (fun _ hk_ => trivial)) (below_size (by repeat (first | (with_reducible first | exact HB.out | apply b1_ | apply b2_ | apply b3_ | refine b4_ ?_ GE328.out) | exact HB.out)))); have n5_ := a0_ (blk_below (g := gb328) (o := .cells #[.bool t348, .slice Ao176 t349.length co176] 26 (0, 0)) (by (with_reducible repeat (first | refine k1_ ?_ _ | refine k2_ ?_ | refine k3_ ?_ _)); exact BK328.out) hb); have n6_ := a0_ (below_step (by repeat (first | (with_reducible first | exact HB.out | apply b1_ | apply b2_ | apply b3_ | refine b4_ ?_ GE328.out) | exact HB.out)) hb); clear HO327; clear HO347; clear HO351; clear HO355; clear BK328; clear HB; have HO327 := n0_; have HO347 := n1_; have HO351 := n2_; have HO355 := n3_; have HO358 := n4_; have BK328 := n5_; have HB := n6_; clear n0_ n1_ n2_ n3_ n4_ n5_ n6_; (try clear hb); (try clear hb2); (try clear hk); (try clear hi); (try clear ho0)) | ((with_reducible refine gate_callee (f := 4) rfl ?_); refine goesL_ (some 68) rfl rfl Tryd.func4 (by kernel_rfl) rfl #[.int .i64 a0, .int .i64 a1, .int .i64 a2] rfl (by (try simp only [List.map_toArray, List.map_cons, List.map_nil]); first | done | rfl | (simp only [List.length_drop, List.length_take]; rfl)) ?_; (with_reducible refine (impl_UnitConvert.calls a0 a1 a2 t360 true _ A126.out (HTAB.out.below (by repeat (first | (with_reducible first | exact HB.out | apply b1_ | apply b2_ | apply b3_ | refine b4_ ?_ GE328.out) | exact HB.out)))).mono ?_); rintro e w181 ⟨rfl, hb⟩; refine ⟨_, rfl, ?_⟩; have n0_ := a0_ (Kd.V_below (by (with_reducible repeat (first | apply v1_ | apply v2_ | apply v3_)); exact HO327.out) hb); have n1_ := a0_ (Kd.V_below (by (with_reducible repeat (first | apply v1_ | apply v2_ | apply v3_)); exact HO347.out) hb); have n2_ := a0_ (Kd.V_below (by (with_reducible repeat (first | apply v1_ | apply v2_ | apply v3_)); exact HO351.out) hb); have n3_ := a0_ (Kd.V_below (by (with_reducible repeat (first | apply v1_ | apply v2_ | apply v3_)); exact HO355.out) hb); have n4_ := a0_ (Kd.R_below (by (with_reducible repeat (first | apply r1_ | apply r2_ | apply r3_)); exact HO358.out) hb); have n5_ := a0_ (blk_below (g := gb328) (o := .cells #[.bool t348, .slice Ao176 t349.length co176] 26 (0, 0)) (by (with_reducible repeat (first | refine k1_ ?_ _ | refine k2_ ?_ | refine k3_ ?_ _)); exact BK328.out) hb); have n6_ := a0_ (below_step (by repeat (first | (with_reducible first | exact HB.out | apply b1_ | apply b2_ | apply b3_ | refine b4_ ?_ GE328.out) | exact HB.out)) hb); clear HO327; clear HO347; clear HO351; clear HO355; clear HO358; clear BK328; clear HB; have HO327 := n0_; have HO347 := n1_; have HO351 := n2_; have HO355 := n3_; have HO358 := n4_; have BK328 := n5_; have HB := n6_; clear n0_ n1_ n2_ n3_ n4_ n5_ n6_; (try clear hb); (try clear hb2); (try clear hk); (try clear hi); obtain ⟨Ao182, co182, eo182⟩ := Kd.R_slice HO358.out; subst eo182; have p362 : 0 ≤ (0 : Int) := (by omega); have q362 : 0 < (t356.length : Int) := d1_ (by first | (with_reducible assumption) | assumption); obtain ⟨ad362, e362, hx362_0⟩ := Kd.at_int (Kd.R_reads' HO358.out).2.2 0 p362 q362; cases e362; have qi362 : (0 < t356.length) = True := eq_true (by omega); (try rw [show ((0 : Int)).toNat = 0 from rfl] at hx362_0); (try rw [Addr.add_zero'] at hx362_0); replace p362 := eq_true p362; replace q362 := eq_true q362))
         go_ret
         exact ⟨by first | rfl | (simp [e1_, e2_] <;> rfl) | (simp [*, e1_, e2_] <;> rfl), by repeat (first | (with_reducible first | exact HB.out | apply b1_ | apply b2_ | apply b3_ | refine b4_ ?_ GE328.out) | exact HB.out)⟩
       ·
        rw [if_neg c129] at H
        exact absurd H (by simp)
      ·
       replace c128 := Bool.eq_false_iff.mpr c128
       subst c128
       have H1 : (some false) = some r := by rw [if_neg (show ¬ (false = true) by decide)] at H; exact H
       clear H
       have H := H1
       clear H1
       obtain rfl := o1_ H
       try go_wp2_with (first | ((with_reducible refine gate_callee (f := 5) rfl ?_); refine goesL_ (some 38) rfl rfl Tryd.func5 (by kernel_rfl) rfl #[.int .i64 a2] rfl (by (try simp only [List.map_toArray, List.map_cons, List.map_nil]); first | done | rfl | (simp only [List.length_drop, List.length_take]; rfl)) ?_; (with_reducible refine (spec_WideInt.calls kj4 a2 t324 t325 _ A12.out).mono ?_); rintro e w183 ⟨v326, rfl, ho0, hb⟩; refine ⟨_, rfl, ?_⟩; have n0_ := a0_ (Kd.V_lower (v4_ (ok' := fun k_ => True) ho0 (fun k_ hk_ => trivial)) (below_size (by repeat (first | (with_reducible first | exact HB.out | apply b1_ | apply b2_ | apply b3_) | exact HB.out)))); have n1_ := a0_ (below_step (by repeat (first | (with_reducible first | exact HB.out | apply b1_ | apply b2_ | apply b3_) | exact HB.out)) hb); clear HB; have HO327 := n0_; have HB := n1_; clear n0_ n1_; (try clear hb); (try clear hb2); (try clear hk); (try clear hi); (try clear ho0)) | ((with_reducible refine gate_dst (N := 9) rfl ?_); refine box_event ?hg (N := 9) ?hd (cs := #[.bool false, .slice none 0 0]) (t := 26) ?hr ?_; (case hd => rfl); (case hg => rfl); (case hr => first | (go_simp; done) | (go_simp; rfl)); intro gb328 hg w184 hbox hb; have n0_ := a0_ (Kd.V_below (Kd.V_elderB (by (with_reducible repeat (first | apply v1_ | apply v2_ | apply v3_)); exact HO327.out) gb328 (Nat.le_of_eq hg.symm)) hb); have n1_ := a0_ (below_step (by repeat (first | (with_reducible first | exact HB.out | apply b1_ | apply b2_ | apply b3_) | exact HB.out)) hb); have n2_ := a0_ (hbox); have n3_ := a0_ ((by rw [hg]; exact (below_size (by repeat (first | (with_reducible first | exact HB.out | apply b1_ | apply b2_ | apply b3_) | exact HB.out))) : w.heap.size ≤ gb328)); have n4_ := a0_ ((by rw [hg]; exact (below_size (by repeat (first | (with_reducible first | exact HB.out | apply b1_ | apply b2_ | apply b3_) | exact HB.out))) : w.heap.size ≤ gb328)); clear HO327; clear HB; have HO327 := n0_; have HB := n1_; have BK328 := n2_; have GW328 := n3_; have GE328 := n4_; clear n0_ n1_ n2_ n3_ n4_; clear hb hbox hg; have hcz185_0 : w184.cell? ⟨gb328, 0, none⟩ = some (.bool false) := (blk_cell BK328.out 0).trans rfl; have hcz185_1 : w184.cell? ⟨gb328, 1, none⟩ = some (.slice none 0 0) := (blk_cell BK328.out 1).trans rfl; have hfz185_0 := blk_frozen BK328.out 0; have hfz185_1 := blk_frozen BK328.out 1; obtain ⟨Ao186, co186, eo186⟩ := Kd.V_slice HO327.out; subst eo186))
       have n0_ : Aside0 (Kd.V (Kd.int .u32) 40 ((w184.setCell ⟨gb328, 0, none⟩ (.bool t324)).setCell ⟨gb328, 1, none⟩ (.slice Ao186 t325.length co186)) w.heap.size (fun k_ => k_ ≠ gb328) (.slice Ao186 t325.length co186) t325) := ⟨by (with_reducible repeat (first | apply v1_ | apply v2_ | apply v3_)); exact v4_ (v5_ (p := ⟨gb328, 1, none⟩) (v5_ (p := ⟨gb328, 0, none⟩) (v4_ HO327.out (fun k_ hk => (⟨hk, hk.2⟩ : _ ∧ k_ ≠ gb328))) (fun _ hk => hk.2) (.bool t324)) (fun _ hk => hk.2) (.slice Ao186 t325.length co186)) (fun _ hk => hk.1.2)⟩
       have n1_ : Aside0 (((w184.setCell ⟨gb328, 0, none⟩ (.bool t324)).setCell ⟨gb328, 1, none⟩ (.slice Ao186 t325.length co186)).heap[gb328]? = some (.cells #[.bool t324, .slice Ao186 t325.length co186] 26 (0, 0))) := ⟨by (with_reducible repeat (first | refine k1_ ?_ _ | refine k2_ ?_ | refine k3_ ?_ _)); refine blk_put (cs := #[.bool t324, .slice none 0 0]) ?_ 1 _ rfl; (with_reducible repeat (first | refine k1_ ?_ _ | refine k2_ ?_ | refine k3_ ?_ _)); refine blk_put (cs := #[.bool false, .slice none 0 0]) ?_ 0 _ rfl; (with_reducible repeat (first | refine k1_ ?_ _ | refine k2_ ?_ | refine k3_ ?_ _)); exact BK328.out⟩
       have n2_ : Aside0 (Below w.heap.size w ((w184.setCell ⟨gb328, 0, none⟩ (.bool t324)).setCell ⟨gb328, 1, none⟩ (.slice Ao186 t325.length co186))) := ⟨by repeat (first | (with_reducible first | exact HB.out | apply b1_ | apply b2_ | apply b3_ | refine b4_ ?_ GE328.out) | exact HB.out)⟩
       (try clear HO327)
       (try clear BK328)
       (try clear HB)
       generalize ((w184.setCell ⟨gb328, 0, none⟩ (.bool t324)).setCell ⟨gb328, 1, none⟩ (.slice Ao186 t325.length co186)) = w187 at n0_ n1_ n2_ ⊢
       have HO327 := n0_
       have BK328 := n1_
       have HB := n2_
       clear n0_ n1_ n2_
       have n0_ := a0_ (v3_ HO327.out)
       have n1_ := a0_ (k2_ BK328.out)
       have n2_ := a0_ (b3_ HB.out)
       clear HO327
       clear BK328
       clear HB
       have HO327 := n0_
       have BK328 := n1_
       have HB := n2_
       clear n0_ n1_ n2_
       refine start_ (n := 11) (S := fun w' => w'.cell? ⟨gb328, 0, none⟩ = some (.bool t324) ∧ w'.cell? ⟨gb328, 1, none⟩ = some (.slice Ao186 t325.length co186)) (ds := [10]) #[false, false, false, false, false, false, false, false, false, false, false] (by kernel_rfl) rfl rfl ⟨(blk_cell BK328.out 0).trans rfl, (blk_cell BK328.out 1).trans rfl⟩ (fun hHeld => ?_); refine with_tabW laws_FnUnitConvert.tab7 laws_FnUnitConvert.bits7 (fun HT_ HW_ => ?_)
       generalize w187.drew = w188 at HO327 BK328 HB hHeld ⊢
       refine pure_ (i := 1) (N := some 51) (v := ?_) (a' := ?_) #[false, true, false, false, false, false, false, false, false, false, false] rfl rfl (any_of HT_.out (by kernel_rfl)) (fun _ _ _ h => h) (Or.inl ⟨by rfl, ?_⟩) ?_ ?_
       rotate_left
       ·
        intro w'
        go_simp
        with_reducible rfl
       rotate_left
       ·
        simp only [Act.put, s1_, s2_, s3_, i64_w, i32_w]
        rfl
       refine pure_ (i := 2) (N := some 52) (v := ?_) (a' := ?_) #[false, true, true, false, false, false, false, false, false, false, false] rfl rfl (any_of HT_.out (by kernel_rfl)) (fun _ _ _ h => h) (Or.inl ⟨by rfl, ?_⟩) ?_ ?_
       rotate_left
       ·
        intro w'
        go_simp
        with_reducible rfl
       rotate_left
       ·
        simp only [Act.put, s1_, s2_, s3_, i64_w, i32_w]
        rfl
       refine pure_ (i := 3) (N := some 53) (v := ?_) (a' := ?_) #[false, true, true, true, false, false, false, false, false, false, false] rfl rfl (any_of HT_.out (by kernel_rfl)) (fun _ _ _ h => h) (Or.inl ⟨by rfl, ?_⟩) ?_ ?_
       rotate_left
       ·
        intro w'
        go_simp
        with_reducible rfl
       rotate_left
       ·
        simp only [Act.put, s1_, s2_, s3_, i64_w, i32_w]
        rfl
       refine pure_ (i := 4) (N := some 54) (v := ?_) (a' := ?_) #[false, true, true, true, true, false, false, false, false, false, false] rfl rfl (any_of HT_.out (by kernel_rfl)) (fun _ _ _ h => h) (Or.inl ⟨by rfl, ?_⟩) ?_ ?_
       rotate_left
       ·
        intro w'
        go_simp
        with_reducible rfl
       rotate_left
       ·
        simp only [Act.put, s1_, s2_, s3_, i64_w, i32_w]
        rfl
       refine take_ (i := 0) (N := some 50) (v := ?_) (a' := ?_) #[true, true, true, true, true, false, false, false, false, false, false] rfl rfl (take_ofW HT_.out HW_.out (by kernel_rfl)) (fun _ _ _ h => h) (Or.inl ⟨by rfl, ?_⟩) hHeld ?_ ?_
       rotate_left
       ·
        rintro w' ⟨s0, s1⟩
        go_simp
        with_reducible rfl
       rotate_left
       ·
        simp only [Act.put, s1_, s2_, s3_, i64_w, i32_w]
        rfl
       refine one_ (i := 5) (N := some 55) #[true, true, true, true, true, true, false, false, false, false, false] rfl rfl (one_of HT_.out (by kernel_rfl)) (by decide) (fun K hK => ?_)
       refine goes_ Tryd.func7 (by kernel_rfl) rfl #[.int .i64 (wrap64 (3 * (wrap64 (a0 - a1))))] (by rfl) rfl rfl (by (try simp only [List.map_toArray, List.map_cons, List.map_nil]); first | done | rfl | (simp only [List.length_drop, List.length_take]; rfl)) ?_
       with_reducible refine (spec_Ten.calls kj4 (wrap64 (3 * (wrap64 (a0 - a1)))) t344 t345 _ A123.out).mono ?_
       rintro e w189 ⟨v346, rfl, ho0, hb⟩
       refine ⟨_, rfl, ?_⟩
       have n0_ := a0_ (Kd.V_below (by (with_reducible repeat (first | apply v1_ | apply v2_ | apply v3_)); exact HO327.out) hb)
       have n1_ := a0_ (Kd.V_lower (v4_ (ok' := fun k_ => k_ ≠ gb328) ho0 (fun k_ hk_ => (Kd.freshB (g := gb328) (o := .cells #[.bool t324, .slice Ao186 t325.length co186] 26 (0, 0)) (by (with_reducible repeat (first | refine k1_ ?_ _ | refine k2_ ?_ | refine k3_ ?_ _)); exact BK328.out) k_ hk_))) (below_size (by repeat (first | (with_reducible first | exact HB.out | apply b1_ | apply b2_ | apply b3_ | refine b4_ ?_ GE328.out) | exact HB.out))))
       have n2_ := a0_ (blk_below (g := gb328) (o := .cells #[.bool t324, .slice Ao186 t325.length co186] 26 (0, 0)) (by (with_reducible repeat (first | refine k1_ ?_ _ | refine k2_ ?_ | refine k3_ ?_ _)); exact BK328.out) hb)
       have n3_ := a0_ (below_step (by repeat (first | (with_reducible first | exact HB.out | apply b1_ | apply b2_ | apply b3_ | refine b4_ ?_ GE328.out) | exact HB.out)) hb)
       clear HO327
       clear BK328
       clear HB
       have HO327 := n0_
       have HO347 := n1_
       have BK328 := n2_
       have HB := n3_
       clear n0_ n1_ n2_ n3_
       (try clear hb)
       (try clear hb2)
       (try clear hk)
       (try clear hi)
       (try clear ho0)
       obtain ⟨Ao190, co190, eo190⟩ := Kd.V_slice HO347.out
       (first | subst eo190 | (injection eo190 with f1_ f2_ f3_; have f4_ := f1_.symm; have f5_ := f3_.symm; clear f1_ f2_ f3_; subst f4_; subst f5_))
       refine hK.out _ _ ⟨(blk_cell BK328.out 0).trans rfl, (blk_cell BK328.out 1).trans rfl⟩ (fun hHeld => ?_)
       clear hK K
       refine norm_ (a' := ?_) ?_ ?_
       rotate_left
       ·
        show Act.put _ (some 55) _ = _
        simp only [Act.put, s1_, s2_, s3_, i64_w, i32_w]
        rfl
       refine one_ (i := 6) (N := some 56) #[true, true, true, true, true, true, true, false, false, false, false] rfl rfl (one_of HT_.out (by kernel_rfl)) (by decide) (fun K hK => ?_)
       refine goes_ Tryd.func8 (by kernel_rfl) rfl #[.agg #[.bool t324, .slice Ao186 t325.length co186], .agg #[.bool t344, .slice Ao190 t345.length co190]] (by rfl) rfl rfl (by (try simp only [List.map_toArray, List.map_cons, List.map_nil]); first | done | rfl | (simp only [List.length_drop, List.length_take]; rfl)) ?_
       with_reducible refine (spec_WideDiv.calls kj4 t324 _ _ t325 t344 _ _ t345 t348 t349 t352 t353 _ ?side1 ?side2 ?side3 ?side4 A124.out).mono ?_
       (case side1 => repeat (first | exact (Kd.V_reads' HO327.out).2.2 | (with_reducible refine Kd.C_alloc ?_ _) | (with_reducible refine Kd.C_drewN ?_ _) | (with_reducible refine Kd.C_drew ?_)))
       (case side2 => exact (Kd.V_reads' HO327.out).2.1)
       (case side3 => repeat (first | exact (Kd.V_reads' HO347.out).2.2 | (with_reducible refine Kd.C_alloc ?_ _) | (with_reducible refine Kd.C_drewN ?_ _) | (with_reducible refine Kd.C_drew ?_)))
       (case side4 => exact (Kd.V_reads' HO347.out).2.1)
       rintro e w191 ⟨v350, v354, rfl, ho0, ho1, hb⟩
       refine ⟨_, rfl, ?_⟩
       have n0_ := a0_ (Kd.V_below (by (with_reducible repeat (first | apply v1_ | apply v2_ | apply v3_)); exact HO327.out) hb)
       have n1_ := a0_ (Kd.V_below (by (with_reducible repeat (first | apply v1_ | apply v2_ | apply v3_)); exact HO347.out) hb)
       have n2_ := a0_ (Kd.V_lower (v4_ (ok' := fun k_ => k_ ≠ gb328) ho0 (fun k_ hk_ => (Kd.freshB (g := gb328) (o := .cells #[.bool t324, .slice Ao186 t325.length co186] 26 (0, 0)) (by (with_reducible repeat (first | refine k1_ ?_ _ | refine k2_ ?_ | refine k3_ ?_ _)); exact BK328.out) k_ hk_))) (below_size (by repeat (first | (with_reducible first | exact HB.out | apply b1_ | apply b2_ | apply b3_ | refine b4_ ?_ GE328.out) | exact HB.out))))
       have n3_ := a0_ (Kd.V_lower (v4_ (ok' := fun k_ => k_ ≠ gb328) ho1 (fun k_ hk_ => (Kd.freshB (g := gb328) (o := .cells #[.bool t324, .slice Ao186 t325.length co186] 26 (0, 0)) (by (with_reducible repeat (first | refine k1_ ?_ _ | refine k2_ ?_ | refine k3_ ?_ _)); exact BK328.out) k_ hk_))) (below_size (by repeat (first | (with_reducible first | exact HB.out | apply b1_ | apply b2_ | apply b3_ | refine b4_ ?_ GE328.out) | exact HB.out))))
       have n4_ := a0_ (blk_below (g := gb328) (o := .cells #[.bool t324, .slice Ao186 t325.length co186] 26 (0, 0)) (by (with_reducible repeat (first | refine k1_ ?_ _ | refine k2_ ?_ | refine k3_ ?_ _)); exact BK328.out) hb)
       have n5_ := a0_ (below_step (by repeat (first | (with_reducible first | exact HB.out | apply b1_ | apply b2_ | apply b3_ | refine b4_ ?_ GE328.out) | exact HB.out)) hb)
       clear HO327
       clear HO347
       clear BK328
       clear HB
       have HO327 := n0_
       have HO347 := n1_
       have HO351 := n2_
       have HO355 := n3_
       have BK328 := n4_
       have HB := n5_
       clear n0_ n1_ n2_ n3_ n4_ n5_
       (try clear hb)
       (try clear hb2)
       (try clear hk)
       (try clear hi)
       (try clear ho0)
       (try clear ho1)
       obtain ⟨Ao193, co193, eo193⟩ := Kd.V_slice HO351.out
       (first | subst eo193 | (injection eo193 with f1_ f2_ f3_; have f4_ := f1_.symm; have f5_ := f3_.symm; clear f1_ f2_ f3_; subst f4_; subst f5_))
       refine hK.out _ _ ⟨(blk_cell BK328.out 0).trans rfl, (blk_cell BK328.out 1).trans rfl⟩ (fun hHeld => ?_)
       clear hK K
       refine norm_ (a' := ?_) ?_ ?_
       rotate_left
       ·
        show Act.put _ (some 56) _ = _
        simp only [Act.put, s1_, s2_, s3_, i64_w, i32_w]
        rfl
       refine pure_ (i := 7) (N := some 49) (v := ?_) (a' := ?_) #[true, true, true, true, true, true, true, true, false, false, false] rfl rfl (any_of HT_.out (by kernel_rfl)) (fun _ _ _ h => h) (Or.inl ⟨by rfl, ?_⟩) ?_ ?_
       rotate_left
       ·
        intro w'
        go_simp
        with_reducible rfl
       rotate_left
       ·
        simp only [Act.put, s1_, s2_, s3_, i64_w, i32_w]
        rfl
       refine pure_ (i := 8) (N := some 57) (v := ?_) (a' := ?_) #[true, true, true, true, true, true, true, true, true, false, false] rfl rfl (any_of HT_.out (by kernel_rfl)) (fun _ _ _ h => h) (Or.inl ⟨by rfl, ?_⟩) ?_ ?_
       rotate_left
       ·
        intro w'
        go_simp
        with_reducible rfl
       rotate_left
       ·
        simp only [Act.put, s1_, s2_, s3_, i64_w, i32_w]
        rfl
       refine pure_ (i := 9) (N := some 58) (v := ?_) (a' := ?_) #[true, true, true, true, true, true, true, true, true, true, false] rfl rfl (any_of HT_.out (by kernel_rfl)) (fun _ _ _ h => h) (Or.inl ⟨by rfl, ?_⟩) ?_ ?_
       rotate_left
       ·
        intro w'
        go_simp
        with_reducible rfl
       rotate_left
       ·
        simp only [Act.put, s1_, s2_, s3_, i64_w, i32_w]
        rfl
       refine last_ (i := 10) (N := none) #[true, true, true, true, true, true, true, true, true, true, true] rfl rfl (one_of HT_.out (by kernel_rfl)) (by decide) (fun K hK => ?_)
       have hs192 : w191.cell? ⟨gb328, 0, none⟩ = some (.bool t324) := (blk_cell BK328.out 0).trans rfl
       have hfs192 := blk_frozen BK328.out 0
       have hs194 : w191.cell? ⟨gb328, 1, none⟩ = some (.slice Ao186 t325.length co186) := (blk_cell BK328.out 1).trans rfl
       have hfs194 := blk_frozen BK328.out 1
       refine skip_ (w1 := ?_) (by rfl) rfl ?_ ?_
       rotate_left
       ·
        go_simp
        rfl
       refine hK.out _ _ ?_
       clear hK K
       refine done_ (done_of HT_.out (by kernel_rfl)) ?_
       have n0_ : Aside0 (Kd.V (Kd.int .u32) 40 ((w191.setCell ⟨gb328, 0, none⟩ (.bool t348)).setCell ⟨gb328, 1, none⟩ (.slice Ao193 t349.length co193)) w.heap.size (fun k_ => k_ ≠ gb328) (.slice Ao186 t325.length co186) t325) := ⟨by (with_reducible repeat (first | apply v1_ | apply v2_ | apply v3_)); exact v4_ (v5_ (p := ⟨gb328, 1, none⟩) (v5_ (p := ⟨gb328, 0, none⟩) (v4_ HO327.out (fun k_ hk => (⟨hk, hk⟩ : _ ∧ k_ ≠ gb328))) (fun _ hk => hk.2) (.bool t348)) (fun _ hk => hk.2) (.slice Ao193 t349.length co193)) (fun _ hk => hk.1)⟩
       have n1_ : Aside0 (Kd.V (Kd.int .u32) 40 ((w191.setCell ⟨gb328, 0, none⟩ (.bool t348)).setCell ⟨gb328, 1, none⟩ (.slice Ao193 t349.length co193)) w.heap.size (fun k_ => k_ ≠ gb328) (.slice Ao190 t345.length co190) t345) := ⟨by (with_reducible repeat (first | apply v1_ | apply v2_ | apply v3_)); exact v4_ (v5_ (p := ⟨gb328, 1, none⟩) (v5_ (p := ⟨gb328, 0, none⟩) (v4_ HO347.out (fun k_ hk => (⟨hk, hk⟩ : _ ∧ k_ ≠ gb328))) (fun _ hk => hk.2) (.bool t348)) (fun _ hk => hk.2) (.slice Ao193 t349.length co193)) (fun _ hk => hk.1)⟩
       have n2_ : Aside0 (Kd.V (Kd.int .u32) 40 ((w191.setCell ⟨gb328, 0, none⟩ (.bool t348)).setCell ⟨gb328, 1, none⟩ (.slice Ao193 t349.length co193)) w.heap.size (fun k_ => k_ ≠ gb328) (.slice Ao193 t349.length co193) t349) := ⟨by (with_reducible repeat (first | apply v1_ | apply v2_ | apply v3_)); exact v4_ (v5_ (p := ⟨gb328, 1, none⟩) (v5_ (p := ⟨gb328, 0, none⟩) (v4_ HO351.out (fun k_ hk => (⟨hk, hk⟩ : _ ∧ k_ ≠ gb328))) (fun _ hk => hk.2) (.bool t348)) (fun _ hk => hk.2) (.slice Ao193 t349.length co193)) (fun _ hk => hk.1)⟩
       have n3_ : Aside0 (Kd.V (Kd.int .u32) 40 ((w191.setCell ⟨gb328, 0, none⟩ (.bool t348)).setCell ⟨gb328, 1, none⟩ (.slice Ao193 t349.length co193)) w.heap.size (fun k_ => k_ ≠ gb328) v354 t353) := ⟨by (with_reducible repeat (first | apply v1_ | apply v2_ | apply v3_)); exact v4_ (v5_ (p := ⟨gb328, 1, none⟩) (v5_ (p := ⟨gb328, 0, none⟩) (v4_ HO355.out (fun k_ hk => (⟨hk, hk⟩ : _ ∧ k_ ≠ gb328))) (fun _ hk => hk.2) (.bool t348)) (fun _ hk => hk.2) (.slice Ao193 t349.length co193)) (fun _ hk => hk.1)⟩
       have n4_ : Aside0 (((w191.setCell ⟨gb328, 0, none⟩ (.bool t348)).setCell ⟨gb328, 1, none⟩ (.slice Ao193 t349.length co193)).heap[gb328]? = some (.cells #[.bool t348, .slice Ao193 t349.length co193] 26 (0, 0))) := ⟨by (with_reducible repeat (first | refine k1_ ?_ _ | refine k2_ ?_ | refine k3_ ?_ _)); refine blk_put (cs := #[.bool t348, .slice Ao186 t325.length co186]) ?_ 1 _ rfl; (with_reducible repeat (first | refine k1_ ?_ _ | refine k2_ ?_ | refine k3_ ?_ _)); refine blk_put (cs := #[.bool t324, .slice Ao186 t325.length co186]) ?_ 0 _ rfl; (with_reducible repeat (first | refine k1_ ?_ _ | refine k2_ ?_ | refine k3_ ?_ _)); exact BK328.out⟩
       have n5_ : Aside0 (Below w.heap.size w ((w191.setCell ⟨gb328, 0, none⟩ (.bool t348)).setCell ⟨gb328, 1, none⟩ (.slice Ao193 t349.length co193))) := ⟨by repeat (first | (with_reducible first | exact HB.out | apply b1_ | apply b2_ | apply b3_ | refine b4_ ?_ GE328.out) | exact HB.out)⟩
       (try clear HO327)
       (try clear HO347)
       (try clear HO351)
       (try clear HO355)
       (try clear BK328)
       (try clear HB)
       generalize ((w191.setCell ⟨gb328, 0, none⟩ (.bool t348)).setCell ⟨gb328, 1, none⟩ (.slice Ao193 t349.length co193)) = w195 at n0_ n1_ n2_ n3_ n4_ n5_ ⊢
       have HO327 := n0_
       have HO347 := n1_
       have HO351 := n2_
       have HO355 := n3_
       have BK328 := n4_
       have HB := n5_
       clear n0_ n1_ n2_ n3_ n4_ n5_
       have hcz196_0 : w195.cell? ⟨gb328, 0, none⟩ = some (.bool t348) := (blk_cell BK328.out 0).trans rfl
       have hcz196_1 : w195.cell? ⟨gb328, 1, none⟩ = some (.slice Ao193 t349.length co193) := (blk_cell BK328.out 1).trans rfl
       have hfz196_0 := blk_frozen BK328.out 0
       have hfz196_1 := blk_frozen BK328.out 1
       try go_wp2_with (first | ((with_reducible refine gate_callee (f := 9) rfl ?_); refine goesL_ (some 61) rfl rfl Tryd.func9 (by kernel_rfl) rfl #[.agg #[.bool t348, .slice Ao193 t349.length co193], .int .i64 1] rfl (by (try simp only [List.map_toArray, List.map_cons, List.map_nil]); first | done | rfl | (simp only [List.length_drop, List.length_take]; rfl)) ?_; (with_reducible refine (spec_ToWords.calls kj4 t348 (fun k_ => k_ ≠ gb328) _ _ t349 1 t356 true _ ?side1 A125.out).mono ?_); (case side1 => exact HO351.out); rintro e w197 ⟨v357, rfl, ho0, hb⟩; refine ⟨_, rfl, ?_⟩; have n0_ := a0_ (Kd.V_elder' (by (with_reducible repeat (first | apply v1_ | apply v2_ | apply v3_)); exact HO327.out) (Kd.R_base ho0) hb); have n1_ := a0_ (Kd.V_elder' (by (with_reducible repeat (first | apply v1_ | apply v2_ | apply v3_)); exact HO347.out) (Kd.R_base ho0) hb); have n2_ := a0_ (Kd.V_elder' (by (with_reducible repeat (first | apply v1_ | apply v2_ | apply v3_)); exact HO351.out) (Kd.R_base ho0) hb); have n3_ := a0_ (Kd.V_elder' (by (with_reducible repeat (first | apply v1_ | apply v2_ | apply v3_)); exact HO355.out) (Kd.R_base ho0) hb); have n4_ := a0_ (Kd.R_lower (Kd.R_mono (ok' := fun k_ => True) ho0 (fun _ hk_ => trivial)) (below_size (by repeat (first | (with_reducible first | exact HB.out | apply b1_ | apply b2_ | apply b3_ | refine b4_ ?_ GE328.out) | exact HB.out)))); have n5_ := a0_ (blk_below (g := gb328) (o := .cells #[.bool t348, .slice Ao193 t349.length co193] 26 (0, 0)) (by (with_reducible repeat (first | refine k1_ ?_ _ | refine k2_ ?_ | refine k3_ ?_ _)); exact BK328.out) hb); have n6_ := a0_ (below_step (by repeat (first | (with_reducible first | exact HB.out | apply b1_ | apply b2_ | apply b3_ | refine b4_ ?_ GE328.out) | exact HB.out)) hb); clear HO327; clear HO347; clear HO351; clear HO355; clear BK328; clear HB; have HO327 := n0_; have HO347 := n1_; have HO351 := n2_; have HO355 := n3_; have HO358 := n4_; have BK328 := n5_; have HB := n6_; clear n0_ n1_ n2_ n3_ n4_ n5_ n6_; (try clear hb); (try clear hb2); (try clear hk); (try clear hi); (try clear ho0)) | ((with_reducible refine gate_callee (f := 4) rfl ?_); refine goesL_ (some 68) rfl rfl Tryd.func4 (by kernel_rfl) rfl #[.int .i64 a0, .int .i64 a1, .int .i64 a2] rfl (by (try simp only [List.map_toArray, List.map_cons, List.map_nil]); first | done | rfl | (simp only [List.length_drop, List.length_take]; rfl)) ?_; (with_reducible refine (impl_UnitConvert.calls a0 a1 a2 t360 false _ A126.out (HTAB.out.below (by repeat (first | (with_reducible first | exact HB.out | apply b1_ | apply b2_ | apply b3_ | refine b4_ ?_ GE328.out) | exact HB.out)))).mono ?_); rintro e w198 ⟨rfl, hb⟩; refine ⟨_, rfl, ?_⟩; have n0_ := a0_ (Kd.V_below (by (with_reducible repeat (first | apply v1_ | apply v2_ | apply v3_)); exact HO327.out) hb); have n1_ := a0_ (Kd.V_below (by (with_reducible repeat (first | apply v1_ | apply v2_ | apply v3_)); exact HO347.out) hb); have n2_ := a0_ (Kd.V_below (by (with_reducible repeat (first | apply v1_ | apply v2_ | apply v3_)); exact HO351.out) hb); have n3_ := a0_ (Kd.V_below (by (with_reducible repeat (first | apply v1_ | apply v2_ | apply v3_)); exact HO355.out) hb); have n4_ := a0_ (Kd.R_below (by (with_reducible repeat (first | apply r1_ | apply r2_ | apply r3_)); exact HO358.out) hb); have n5_ := a0_ (blk_below (g := gb328) (o := .cells #[.bool t348, .slice Ao193 t349.length co193] 26 (0, 0)) (by (with_reducible repeat (first | refine k1_ ?_ _ | refine k2_ ?_ | refine k3_ ?_ _)); exact BK328.out) hb); have n6_ := a0_ (below_step (by repeat (first | (with_reducible first | exact HB.out | apply b1_ | apply b2_ | apply b3_ | refine b4_ ?_ GE328.out) | exact HB.out)) hb); clear HO327; clear HO347; clear HO351; clear HO355; clear HO358; clear BK328; clear HB; have HO327 := n0_; have HO347 := n1_; have HO351 := n2_; have HO355 := n3_; have HO358 := n4_; have BK328 := n5_; have HB := n6_; clear n0_ n1_ n2_ n3_ n4_ n5_ n6_; (try clear hb); (try clear hb2); (try clear hk); (try clear hi)))
       go_ret
       exact ⟨by first | rfl | (simp [e1_, e2_] <;> rfl) | (simp [*, e1_, e2_] <;> rfl), by repeat (first | (with_reducible first | exact HB.out | apply b1_ | apply b2_ | apply b3_ | refine b4_ ?_ GE328.out) | exact HB.out)⟩
     ·
      replace c127 := Bool.eq_false_iff.mpr c127
      subst c127
      have H1 : (if t322 = 1000 then (some t323) else (some false)) = some r := by rw [if_neg (show ¬ (false = true) by decide)] at H; exact H
      clear H
      have H := H1
      clear H1
      by_cases c199 : t322 = 1000
      ·
       rw [if_pos c199] at H
       have c199b0 : (t322 == 1000) = true := beq_iff_eq.mpr c199
       have c199b1 : (t322 != 1000) = false := bne_eq_false_iff_eq.mpr c199
       clear c199
       obtain rfl := o1_ H
       try go_wp2_with (first | ((with_reducible refine gate_callee (f := 5) rfl ?_); refine goesL_ (some 38) rfl rfl Tryd.func5 (by kernel_rfl) rfl #[.int .i64 a2] rfl (by (try simp only [List.map_toArray, List.map_cons, List.map_nil]); first | done | rfl | (simp only [List.length_drop, List.length_take]; rfl)) ?_; (with_reducible refine (spec_WideInt.calls kj4 a2 t324 t325 _ A12.out).mono ?_); rintro e w200 ⟨v326, rfl, ho0, hb⟩; refine ⟨_, rfl, ?_⟩; have n0_ := a0_ (Kd.V_lower (v4_ (ok' := fun k_ => True) ho0 (fun k_ hk_ => trivial)) (below_size (by repeat (first | (with_reducible first | exact HB.out | apply b1_ | apply b2_ | apply b3_) | exact HB.out)))); have n1_ := a0_ (below_step (by repeat (first | (with_reducible first | exact HB.out | apply b1_ | apply b2_ | apply b3_) | exact HB.out)) hb); clear HB; have HO327 := n0_; have HB := n1_; clear n0_ n1_; (try clear hb); (try clear hb2); (try clear hk); (try clear hi); (try clear ho0)) | ((with_reducible refine gate_dst (N := 9) rfl ?_); refine box_event ?hg (N := 9) ?hd (cs := #[.bool false, .slice none 0 0]) (t := 26) ?hr ?_; (case hd => rfl); (case hg => rfl); (case hr => first | (go_simp; done) | (go_simp; rfl)); intro gb328 hg w201 hbox hb; have n0_ := a0_ (Kd.V_below (Kd.V_elderB (by (with_reducible repeat (first | apply v1_ | apply v2_ | apply v3_)); exact HO327.out) gb328 (Nat.le_of_eq hg.symm)) hb); have n1_ := a0_ (below_step (by repeat (first | (with_reducible first | exact HB.out | apply b1_ | apply b2_ | apply b3_) | exact HB.out)) hb); have n2_ := a0_ (hbox); have n3_ := a0_ ((by rw [hg]; exact (below_size (by repeat (first | (with_reducible first | exact HB.out | apply b1_ | apply b2_ | apply b3_) | exact HB.out))) : w.heap.size ≤ gb328)); have n4_ := a0_ ((by rw [hg]; exact (below_size (by repeat (first | (with_reducible first | exact HB.out | apply b1_ | apply b2_ | apply b3_) | exact HB.out))) : w.heap.size ≤ gb328)); clear HO327; clear HB; have HO327 := n0_; have HB := n1_; have BK328 := n2_; have GW328 := n3_; have GE328 := n4_; clear n0_ n1_ n2_ n3_ n4_; clear hb hbox hg; have hcz202_0 : w201.cell? ⟨gb328, 0, none⟩ = some (.bool false) := (blk_cell BK328.out 0).trans rfl; have hcz202_1 : w201.cell? ⟨gb328, 1, none⟩ = some (.slice none 0 0) := (blk_cell BK328.out 1).trans rfl; have hfz202_0 := blk_frozen BK328.out 0; have hfz202_1 := blk_frozen BK328.out 1; obtain ⟨Ao203, co203, eo203⟩ := Kd.V_slice HO327.out; subst eo203))
       have n0_ : Aside0 (Kd.V (Kd.int .u32) 40 ((w201.setCell ⟨gb328, 0, none⟩ (.bool t324)).setCell ⟨gb328, 1, none⟩ (.slice Ao203 t325.length co203)) w.heap.size (fun k_ => k_ ≠ gb328) (.slice Ao203 t325.length co203) t325) := ⟨by (with_reducible repeat (first | apply v1_ | apply v2_ | apply v3_)); exact v4_ (v5_ (p := ⟨gb328, 1, none⟩) (v5_ (p := ⟨gb328, 0, none⟩) (v4_ HO327.out (fun k_ hk => (⟨hk, hk.2⟩ : _ ∧ k_ ≠ gb328))) (fun _ hk => hk.2) (.bool t324)) (fun _ hk => hk.2) (.slice Ao203 t325.length co203)) (fun _ hk => hk.1.2)⟩
       have n1_ : Aside0 (((w201.setCell ⟨gb328, 0, none⟩ (.bool t324)).setCell ⟨gb328, 1, none⟩ (.slice Ao203 t325.length co203)).heap[gb328]? = some (.cells #[.bool t324, .slice Ao203 t325.length co203] 26 (0, 0))) := ⟨by (with_reducible repeat (first | refine k1_ ?_ _ | refine k2_ ?_ | refine k3_ ?_ _)); refine blk_put (cs := #[.bool t324, .slice none 0 0]) ?_ 1 _ rfl; (with_reducible repeat (first | refine k1_ ?_ _ | refine k2_ ?_ | refine k3_ ?_ _)); refine blk_put (cs := #[.bool false, .slice none 0 0]) ?_ 0 _ rfl; (with_reducible repeat (first | refine k1_ ?_ _ | refine k2_ ?_ | refine k3_ ?_ _)); exact BK328.out⟩
       have n2_ : Aside0 (Below w.heap.size w ((w201.setCell ⟨gb328, 0, none⟩ (.bool t324)).setCell ⟨gb328, 1, none⟩ (.slice Ao203 t325.length co203))) := ⟨by repeat (first | (with_reducible first | exact HB.out | apply b1_ | apply b2_ | apply b3_ | refine b4_ ?_ GE328.out) | exact HB.out)⟩
       (try clear HO327)
       (try clear BK328)
       (try clear HB)
       generalize ((w201.setCell ⟨gb328, 0, none⟩ (.bool t324)).setCell ⟨gb328, 1, none⟩ (.slice Ao203 t325.length co203)) = w204 at n0_ n1_ n2_ ⊢
       have HO327 := n0_
       have BK328 := n1_
       have HB := n2_
       clear n0_ n1_ n2_
       have n0_ := a0_ (v3_ HO327.out)
       have n1_ := a0_ (k2_ BK328.out)
       have n2_ := a0_ (b3_ HB.out)
       clear HO327
       clear BK328
       clear HB
       have HO327 := n0_
       have BK328 := n1_
       have HB := n2_
       clear n0_ n1_ n2_
       refine start_ (n := 11) (S := fun w' => w'.cell? ⟨gb328, 0, none⟩ = some (.bool t324) ∧ w'.cell? ⟨gb328, 1, none⟩ = some (.slice Ao203 t325.length co203)) (ds := [10]) #[false, false, false, false, false, false, false, false, false, false, false] (by kernel_rfl) rfl rfl ⟨(blk_cell BK328.out 0).trans rfl, (blk_cell BK328.out 1).trans rfl⟩ (fun hHeld => ?_); refine with_tabW laws_FnUnitConvert.tab7 laws_FnUnitConvert.bits7 (fun HT_ HW_ => ?_)
       generalize w204.drew = w205 at HO327 BK328 HB hHeld ⊢
       refine pure_ (i := 1) (N := some 51) (v := ?_) (a' := ?_) #[false, true, false, false, false, false, false, false, false, false, false] rfl rfl (any_of HT_.out (by kernel_rfl)) (fun _ _ _ h => h) (Or.inl ⟨by rfl, ?_⟩) ?_ ?_
       rotate_left
       ·
        intro w'
        go_simp
        with_reducible rfl
       rotate_left
       ·
        simp only [Act.put, s1_, s2_, s3_, i64_w, i32_w]
        rfl
       refine pure_ (i := 2) (N := some 52) (v := ?_) (a' := ?_) #[false, true, true, false, false, false, false, false, false, false, false] rfl rfl (any_of HT_.out (by kernel_rfl)) (fun _ _ _ h => h) (Or.inl ⟨by rfl, ?_⟩) ?_ ?_
       rotate_left
       ·
        intro w'
        go_simp
        with_reducible rfl
       rotate_left
       ·
        simp only [Act.put, s1_, s2_, s3_, i64_w, i32_w]
        rfl
       refine pure_ (i := 3) (N := some 53) (v := ?_) (a' := ?_) #[false, true, true, true, false, false, false, false, false, false, false] rfl rfl (any_of HT_.out (by kernel_rfl)) (fun _ _ _ h => h) (Or.inl ⟨by rfl, ?_⟩) ?_ ?_
       rotate_left
       ·
        intro w'
        go_simp
        with_reducible rfl
       rotate_left
       ·
        simp only [Act.put, s1_, s2_, s3_, i64_w, i32_w]
        rfl
       refine pure_ (i := 4) (N := some 54) (v := ?_) (a' := ?_) #[false, true, true, true, true, false, false, false, false, false, false] rfl rfl (any_of HT_.out (by kernel_rfl)) (fun _ _ _ h => h) (Or.inl ⟨by rfl, ?_⟩) ?_ ?_
       rotate_left
       ·
        intro w'
        go_simp
        with_reducible rfl
       rotate_left
       ·
        simp only [Act.put, s1_, s2_, s3_, i64_w, i32_w]
        rfl
       refine take_ (i := 0) (N := some 50) (v := ?_) (a' := ?_) #[true, true, true, true, true, false, false, false, false, false, false] rfl rfl (take_ofW HT_.out HW_.out (by kernel_rfl)) (fun _ _ _ h => h) (Or.inl ⟨by rfl, ?_⟩) hHeld ?_ ?_
       rotate_left
       ·
        rintro w' ⟨s0, s1⟩
        go_simp
        with_reducible rfl
       rotate_left
       ·
        simp only [Act.put, s1_, s2_, s3_, i64_w, i32_w]
        rfl
       refine one_ (i := 5) (N := some 55) #[true, true, true, true, true, true, false, false, false, false, false] rfl rfl (one_of HT_.out (by kernel_rfl)) (by decide) (fun K hK => ?_)
       refine goes_ Tryd.func7 (by kernel_rfl) rfl #[.int .i64 (wrap64 (3 * (wrap64 (a0 - a1))))] (by rfl) rfl rfl (by (try simp only [List.map_toArray, List.map_cons, List.map_nil]); first | done | rfl | (simp only [List.length_drop, List.length_take]; rfl)) ?_
       with_reducible refine (spec_Ten.calls kj4 (wrap64 (3 * (wrap64 (a0 - a1)))) t344 t345 _ A123.out).mono ?_
       rintro e w206 ⟨v346, rfl, ho0, hb⟩
       refine ⟨_, rfl, ?_⟩
       have n0_ := a0_ (Kd.V_below (by (with_reducible repeat (first | apply v1_ | apply v2_ | apply v3_)); exact HO327.out) hb)
       have n1_ := a0_ (Kd.V_lower (v4_ (ok' := fun k_ => k_ ≠ gb328) ho0 (fun k_ hk_ => (Kd.freshB (g := gb328) (o := .cells #[.bool t324, .slice Ao203 t325.length co203] 26 (0, 0)) (by (with_reducible repeat (first | refine k1_ ?_ _ | refine k2_ ?_ | refine k3_ ?_ _)); exact BK328.out) k_ hk_))) (below_size (by repeat (first | (with_reducible first | exact HB.out | apply b1_ | apply b2_ | apply b3_ | refine b4_ ?_ GE328.out) | exact HB.out))))
       have n2_ := a0_ (blk_below (g := gb328) (o := .cells #[.bool t324, .slice Ao203 t325.length co203] 26 (0, 0)) (by (with_reducible repeat (first | refine k1_ ?_ _ | refine k2_ ?_ | refine k3_ ?_ _)); exact BK328.out) hb)
       have n3_ := a0_ (below_step (by repeat (first | (with_reducible first | exact HB.out | apply b1_ | apply b2_ | apply b3_ | refine b4_ ?_ GE328.out) | exact HB.out)) hb)
       clear HO327
       clear BK328
       clear HB
       have HO327 := n0_
       have HO347 := n1_
       have BK328 := n2_
       have HB := n3_
       clear n0_ n1_ n2_ n3_
       (try clear hb)
       (try clear hb2)
       (try clear hk)
       (try clear hi)
       (try clear ho0)
       obtain ⟨Ao207, co207, eo207⟩ := Kd.V_slice HO347.out
       (first | subst eo207 | (injection eo207 with f1_ f2_ f3_; have f4_ := f1_.symm; have f5_ := f3_.symm; clear f1_ f2_ f3_; subst f4_; subst f5_))
       refine hK.out _ _ ⟨(blk_cell BK328.out 0).trans rfl, (blk_cell BK328.out 1).trans rfl⟩ (fun hHeld => ?_)
       clear hK K
       refine norm_ (a' := ?_) ?_ ?_
       rotate_left
       ·
        show Act.put _ (some 55) _ = _
        simp only [Act.put, s1_, s2_, s3_, i64_w, i32_w]
        rfl
       refine one_ (i := 6) (N := some 56) #[true, true, true, true, true, true, true, false, false, false, false] rfl rfl (one_of HT_.out (by kernel_rfl)) (by decide) (fun K hK => ?_)
       refine goes_ Tryd.func8 (by kernel_rfl) rfl #[.agg #[.bool t324, .slice Ao203 t325.length co203], .agg #[.bool t344, .slice Ao207 t345.length co207]] (by rfl) rfl rfl (by (try simp only [List.map_toArray, List.map_cons, List.map_nil]); first | done | rfl | (simp only [List.length_drop, List.length_take]; rfl)) ?_
       with_reducible refine (spec_WideDiv.calls kj4 t324 _ _ t325 t344 _ _ t345 t348 t349 t352 t353 _ ?side1 ?side2 ?side3 ?side4 A124.out).mono ?_
       (case side1 => repeat (first | exact (Kd.V_reads' HO327.out).2.2 | (with_reducible refine Kd.C_alloc ?_ _) | (with_reducible refine Kd.C_drewN ?_ _) | (with_reducible refine Kd.C_drew ?_)))
       (case side2 => exact (Kd.V_reads' HO327.out).2.1)
       (case side3 => repeat (first | exact (Kd.V_reads' HO347.out).2.2 | (with_reducible refine Kd.C_alloc ?_ _) | (with_reducible refine Kd.C_drewN ?_ _) | (with_reducible refine Kd.C_drew ?_)))
       (case side4 => exact (Kd.V_reads' HO347.out).2.1)
       rintro e w208 ⟨v350, v354, rfl, ho0, ho1, hb⟩
       refine ⟨_, rfl, ?_⟩
       have n0_ := a0_ (Kd.V_below (by (with_reducible repeat (first | apply v1_ | apply v2_ | apply v3_)); exact HO327.out) hb)
       have n1_ := a0_ (Kd.V_below (by (with_reducible repeat (first | apply v1_ | apply v2_ | apply v3_)); exact HO347.out) hb)
       have n2_ := a0_ (Kd.V_lower (v4_ (ok' := fun k_ => k_ ≠ gb328) ho0 (fun k_ hk_ => (Kd.freshB (g := gb328) (o := .cells #[.bool t324, .slice Ao203 t325.length co203] 26 (0, 0)) (by (with_reducible repeat (first | refine k1_ ?_ _ | refine k2_ ?_ | refine k3_ ?_ _)); exact BK328.out) k_ hk_))) (below_size (by repeat (first | (with_reducible first | exact HB.out | apply b1_ | apply b2_ | apply b3_ | refine b4_ ?_ GE328.out) | exact HB.out))))
       have n3_ := a0_ (Kd.V_lower (v4_ (ok' := fun k_ => k_ ≠ gb328) ho1 (fun k_ hk_ => (Kd.freshB (g := gb328) (o := .cells #[.bool t324, .slice Ao203 t325.length co203] 26 (0, 0)) (by (with_reducible repeat (first | refine k1_ ?_ _ | refine k2_ ?_ | refine k3_ ?_ _)); exact BK328.out) k_ hk_))) (below_size (by repeat (first | (with_reducible first | exact HB.out | apply b1_ | apply b2_ | apply b3_ | refine b4_ ?_ GE328.out) | exact HB.out))))
       have n4_ := a0_ (blk_below (g := gb328) (o := .cells #[.bool t324, .slice Ao203 t325.length co203] 26 (0, 0)) (by (with_reducible repeat (first | refine k1_ ?_ _ | refine k2_ ?_ | refine k3_ ?_ _)); exact BK328.out) hb)
       have n5_ := a0_ (below_step (by repeat (first | (with_reducible first | exact HB.out | apply b1_ | apply b2_ | apply b3_ | refine b4_ ?_ GE328.out) | exact HB.out)) hb)
       clear HO327
       clear HO347
       clear BK328
       clear HB
       have HO327 := n0_
       have HO347 := n1_
       have HO351 := n2_
       have HO355 := n3_
       have BK328 := n4_
       have HB := n5_
       clear n0_ n1_ n2_ n3_ n4_ n5_
       (try clear hb)
       (try clear hb2)
       (try clear hk)
       (try clear hi)
       (try clear ho0)
       (try clear ho1)
       obtain ⟨Ao210, co210, eo210⟩ := Kd.V_slice HO351.out
       (first | subst eo210 | (injection eo210 with f1_ f2_ f3_; have f4_ := f1_.symm; have f5_ := f3_.symm; clear f1_ f2_ f3_; subst f4_; subst f5_))
       refine hK.out _ _ ⟨(blk_cell BK328.out 0).trans rfl, (blk_cell BK328.out 1).trans rfl⟩ (fun hHeld => ?_)
       clear hK K
       refine norm_ (a' := ?_) ?_ ?_
       rotate_left
       ·
        show Act.put _ (some 56) _ = _
        simp only [Act.put, s1_, s2_, s3_, i64_w, i32_w]
        rfl
       refine pure_ (i := 7) (N := some 49) (v := ?_) (a' := ?_) #[true, true, true, true, true, true, true, true, false, false, false] rfl rfl (any_of HT_.out (by kernel_rfl)) (fun _ _ _ h => h) (Or.inl ⟨by rfl, ?_⟩) ?_ ?_
       rotate_left
       ·
        intro w'
        go_simp
        with_reducible rfl
       rotate_left
       ·
        simp only [Act.put, s1_, s2_, s3_, i64_w, i32_w]
        rfl
       refine pure_ (i := 8) (N := some 57) (v := ?_) (a' := ?_) #[true, true, true, true, true, true, true, true, true, false, false] rfl rfl (any_of HT_.out (by kernel_rfl)) (fun _ _ _ h => h) (Or.inl ⟨by rfl, ?_⟩) ?_ ?_
       rotate_left
       ·
        intro w'
        go_simp
        with_reducible rfl
       rotate_left
       ·
        simp only [Act.put, s1_, s2_, s3_, i64_w, i32_w]
        rfl
       refine pure_ (i := 9) (N := some 58) (v := ?_) (a' := ?_) #[true, true, true, true, true, true, true, true, true, true, false] rfl rfl (any_of HT_.out (by kernel_rfl)) (fun _ _ _ h => h) (Or.inl ⟨by rfl, ?_⟩) ?_ ?_
       rotate_left
       ·
        intro w'
        go_simp
        with_reducible rfl
       rotate_left
       ·
        simp only [Act.put, s1_, s2_, s3_, i64_w, i32_w]
        rfl
       refine last_ (i := 10) (N := none) #[true, true, true, true, true, true, true, true, true, true, true] rfl rfl (one_of HT_.out (by kernel_rfl)) (by decide) (fun K hK => ?_)
       have hs209 : w208.cell? ⟨gb328, 0, none⟩ = some (.bool t324) := (blk_cell BK328.out 0).trans rfl
       have hfs209 := blk_frozen BK328.out 0
       have hs211 : w208.cell? ⟨gb328, 1, none⟩ = some (.slice Ao203 t325.length co203) := (blk_cell BK328.out 1).trans rfl
       have hfs211 := blk_frozen BK328.out 1
       refine skip_ (w1 := ?_) (by rfl) rfl ?_ ?_
       rotate_left
       ·
        go_simp
        rfl
       refine hK.out _ _ ?_
       clear hK K
       refine done_ (done_of HT_.out (by kernel_rfl)) ?_
       have n0_ : Aside0 (Kd.V (Kd.int .u32) 40 ((w208.setCell ⟨gb328, 0, none⟩ (.bool t348)).setCell ⟨gb328, 1, none⟩ (.slice Ao210 t349.length co210)) w.heap.size (fun k_ => k_ ≠ gb328) (.slice Ao203 t325.length co203) t325) := ⟨by (with_reducible repeat (first | apply v1_ | apply v2_ | apply v3_)); exact v4_ (v5_ (p := ⟨gb328, 1, none⟩) (v5_ (p := ⟨gb328, 0, none⟩) (v4_ HO327.out (fun k_ hk => (⟨hk, hk⟩ : _ ∧ k_ ≠ gb328))) (fun _ hk => hk.2) (.bool t348)) (fun _ hk => hk.2) (.slice Ao210 t349.length co210)) (fun _ hk => hk.1)⟩
       have n1_ : Aside0 (Kd.V (Kd.int .u32) 40 ((w208.setCell ⟨gb328, 0, none⟩ (.bool t348)).setCell ⟨gb328, 1, none⟩ (.slice Ao210 t349.length co210)) w.heap.size (fun k_ => k_ ≠ gb328) (.slice Ao207 t345.length co207) t345) := ⟨by (with_reducible repeat (first | apply v1_ | apply v2_ | apply v3_)); exact v4_ (v5_ (p := ⟨gb328, 1, none⟩) (v5_ (p := ⟨gb328, 0, none⟩) (v4_ HO347.out (fun k_ hk => (⟨hk, hk⟩ : _ ∧ k_ ≠ gb328))) (fun _ hk => hk.2) (.bool t348)) (fun _ hk => hk.2) (.slice Ao210 t349.length co210)) (fun _ hk => hk.1)⟩
       have n2_ : Aside0 (Kd.V (Kd.int .u32) 40 ((w208.setCell ⟨gb328, 0, none⟩ (.bool t348)).setCell ⟨gb328, 1, none⟩ (.slice Ao210 t349.length co210)) w.heap.size (fun k_ => k_ ≠ gb328) (.slice Ao210 t349.length co210) t349) := ⟨by (with_reducible repeat (first | apply v1_ | apply v2_ | apply v3_)); exact v4_ (v5_ (p := ⟨gb328, 1, none⟩) (v5_ (p := ⟨gb328, 0, none⟩) (v4_ HO351.out (fun k_ hk => (⟨hk, hk⟩ : _ ∧ k_ ≠ gb328))) (fun _ hk => hk.2) (.bool t348)) (fun _ hk => hk.2) (.slice Ao210 t349.length co210)) (fun _ hk => hk.1)⟩
       have n3_ : Aside0 (Kd.V (Kd.int .u32) 40 ((w208.setCell ⟨gb328, 0, none⟩ (.bool t348)).setCell ⟨gb328, 1, none⟩ (.slice Ao210 t349.length co210)) w.heap.size (fun k_ => k_ ≠ gb328) v354 t353) := ⟨by (with_reducible repeat (first | apply v1_ | apply v2_ | apply v3_)); exact v4_ (v5_ (p := ⟨gb328, 1, none⟩) (v5_ (p := ⟨gb328, 0, none⟩) (v4_ HO355.out (fun k_ hk => (⟨hk, hk⟩ : _ ∧ k_ ≠ gb328))) (fun _ hk => hk.2) (.bool t348)) (fun _ hk => hk.2) (.slice Ao210 t349.length co210)) (fun _ hk => hk.1)⟩
       have n4_ : Aside0 (((w208.setCell ⟨gb328, 0, none⟩ (.bool t348)).setCell ⟨gb328, 1, none⟩ (.slice Ao210 t349.length co210)).heap[gb328]? = some (.cells #[.bool t348, .slice Ao210 t349.length co210] 26 (0, 0))) := ⟨by (with_reducible repeat (first | refine k1_ ?_ _ | refine k2_ ?_ | refine k3_ ?_ _)); refine blk_put (cs := #[.bool t348, .slice Ao203 t325.length co203]) ?_ 1 _ rfl; (with_reducible repeat (first | refine k1_ ?_ _ | refine k2_ ?_ | refine k3_ ?_ _)); refine blk_put (cs := #[.bool t324, .slice Ao203 t325.length co203]) ?_ 0 _ rfl; (with_reducible repeat (first | refine k1_ ?_ _ | refine k2_ ?_ | refine k3_ ?_ _)); exact BK328.out⟩
       have n5_ : Aside0 (Below w.heap.size w ((w208.setCell ⟨gb328, 0, none⟩ (.bool t348)).setCell ⟨gb328, 1, none⟩ (.slice Ao210 t349.length co210))) := ⟨by repeat (first | (with_reducible first | exact HB.out | apply b1_ | apply b2_ | apply b3_ | refine b4_ ?_ GE328.out) | exact HB.out)⟩
       (try clear HO327)
       (try clear HO347)
       (try clear HO351)
       (try clear HO355)
       (try clear BK328)
       (try clear HB)
       generalize ((w208.setCell ⟨gb328, 0, none⟩ (.bool t348)).setCell ⟨gb328, 1, none⟩ (.slice Ao210 t349.length co210)) = w212 at n0_ n1_ n2_ n3_ n4_ n5_ ⊢
       have HO327 := n0_
       have HO347 := n1_
       have HO351 := n2_
       have HO355 := n3_
       have BK328 := n4_
       have HB := n5_
       clear n0_ n1_ n2_ n3_ n4_ n5_
       have hcz213_0 : w212.cell? ⟨gb328, 0, none⟩ = some (.bool t348) := (blk_cell BK328.out 0).trans rfl
       have hcz213_1 : w212.cell? ⟨gb328, 1, none⟩ = some (.slice Ao210 t349.length co210) := (blk_cell BK328.out 1).trans rfl
       have hfz213_0 := blk_frozen BK328.out 0
       have hfz213_1 := blk_frozen BK328.out 1
       try go_wp2_with (first | ((with_reducible refine gate_callee (f := 9) rfl ?_); refine goesL_ (some 61) rfl rfl Tryd.func9 (by kernel_rfl) rfl #[.agg #[.bool t348, .slice Ao210 t349.length co210], .int .i64 1] rfl (by (try simp only [List.map_toArray, List.map_cons, List.map_nil]); first | done | rfl | (simp only [List.length_drop, List.length_take]; rfl)) ?_; (with_reducible refine (spec_ToWords.calls kj4 t348 (fun k_ => k_ ≠ gb328) _ _ t349 1 t356 false _ ?side1 A125.out).mono ?_); (case side1 => exact HO351.out); rintro e w214 ⟨v357, rfl, ho0, hb⟩; refine ⟨_, rfl, ?_⟩; have n0_ := a0_ (Kd.V_elder' (by (with_reducible repeat (first | apply v1_ | apply v2_ | apply v3_)); exact HO327.out) (Kd.R_base ho0) hb); have n1_ := a0_ (Kd.V_elder' (by (with_reducible repeat (first | apply v1_ | apply v2_ | apply v3_)); exact HO347.out) (Kd.R_base ho0) hb); have n2_ := a0_ (Kd.V_elder' (by (with_reducible repeat (first | apply v1_ | apply v2_ | apply v3_)); exact HO351.out) (Kd.R_base ho0) hb); have n3_ := a0_ (Kd.V_elder' (by (with_reducible repeat (first | apply v1_ | apply v2_ | apply v3_)); exact HO355.out) (Kd.R_base ho0) hb); have n4_ := a0_ (Kd.R_lower (Kd.R_mono (ok' := fun k_ => True) ho0 (fun _ hk_ => trivial)) (below_size (by repeat (first | (with_reducible first | exact HB.out | apply b1_ | apply b2_ | apply b3_ | refine b4_ ?_ GE328.out) | exact HB.out)))); have n5_ := a0_ (blk_below (g := gb328) (o := .cells #[.bool t348, .slice Ao210 t349.length co210] 26 (0, 0)) (by (with_reducible repeat (first | refine k1_ ?_ _ | refine k2_ ?_ | refine k3_ ?_ _)); exact BK328.out) hb); have n6_ := a0_ (below_step (by repeat (first | (with_reducible first | exact HB.out | apply b1_ | apply b2_ | apply b3_ | refine b4_ ?_ GE328.out) | exact HB.out)) hb); clear HO327; clear HO347; clear HO351; clear HO355; clear BK328; clear HB; have HO327 := n0_; have HO347 := n1_; have HO351 := n2_; have HO355 := n3_; have HO358 := n4_; have BK328 := n5_; have HB := n6_; clear n0_ n1_ n2_ n3_ n4_ n5_ n6_; (try clear hb); (try clear hb2); (try clear hk); (try clear hi); (try clear ho0)) | ((with_reducible refine gate_callee (f := 4) rfl ?_); refine goesL_ (some 68) rfl rfl Tryd.func4 (by kernel_rfl) rfl #[.int .i64 a0, .int .i64 a1, .int .i64 a2] rfl (by (try simp only [List.map_toArray, List.map_cons, List.map_nil]); first | done | rfl | (simp only [List.length_drop, List.length_take]; rfl)) ?_; (with_reducible refine (impl_UnitConvert.calls a0 a1 a2 t360 t361 _ A126.out (HTAB.out.below (by repeat (first | (with_reducible first | exact HB.out | apply b1_ | apply b2_ | apply b3_ | refine b4_ ?_ GE328.out) | exact HB.out)))).mono ?_); rintro e w215 ⟨rfl, hb⟩; refine ⟨_, rfl, ?_⟩; have n0_ := a0_ (Kd.V_below (by (with_reducible repeat (first | apply v1_ | apply v2_ | apply v3_)); exact HO327.out) hb); have n1_ := a0_ (Kd.V_below (by (with_reducible repeat (first | apply v1_ | apply v2_ | apply v3_)); exact HO347.out) hb); have n2_ := a0_ (Kd.V_below (by (with_reducible repeat (first | apply v1_ | apply v2_ | apply v3_)); exact HO351.out) hb); have n3_ := a0_ (Kd.V_below (by (with_reducible repeat (first | apply v1_ | apply v2_ | apply v3_)); exact HO355.out) hb); have n4_ := a0_ (Kd.R_below (by (with_reducible repeat (first | apply r1_ | apply r2_ | apply r3_)); exact HO358.out) hb); have n5_ := a0_ (blk_below (g := gb328) (o := .cells #[.bool t348, .slice Ao210 t349.length co210] 26 (0, 0)) (by (with_reducible repeat (first | refine k1_ ?_ _ | refine k2_ ?_ | refine k3_ ?_ _)); exact BK328.out) hb); have n6_ := a0_ (below_step (by repeat (first | (with_reducible first | exact HB.out | apply b1_ | apply b2_ | apply b3_ | refine b4_ ?_ GE328.out) | exact HB.out)) hb); clear HO327; clear HO347; clear HO351; clear HO355; clear HO358; clear BK328; clear HB; have HO327 := n0_; have HO347 := n1_; have HO351 := n2_; have HO355 := n3_; have HO358 := n4_; have BK328 := n5_; have HB := n6_; clear n0_ n1_ n2_ n3_ n4_ n5_ n6_; (try clear hb); (try clear hb2); (try clear hk); (try clear hi)))
       go_ret
       exact ⟨by first | rfl | (simp [e1_, e2_] <;> rfl) | (simp [*, e1_, e2_] <;> rfl), by repeat (first | (with_reducible first | exact HB.out | apply b1_ | apply b2_ | apply b3_ | refine b4_ ?_ GE328.out) | exact HB.out)⟩
      ·
       rw [if_neg c199] at H
       have c199b0 : (t322 == 1000) = false := beq_eq_false_iff_ne.mpr c199
       have c199b1 : (t322 != 1000) = true := bne_iff_ne.mpr c199
       obtain rfl := o1_ H
       try go_wp2_with (first | ((with_reducible refine gate_callee (f := 5) rfl ?_); refine goesL_ (some 38) rfl rfl Tryd.func5 (by kernel_rfl) rfl #[.int .i64 a2] rfl (by (try simp only [List.map_toArray, List.map_cons, List.map_nil]); first | done | rfl | (simp only [List.length_drop, List.length_take]; rfl)) ?_; (with_reducible refine (spec_WideInt.calls kj4 a2 t324 t325 _ A12.out).mono ?_); rintro e w216 ⟨v326, rfl, ho0, hb⟩; refine ⟨_, rfl, ?_⟩; have n0_ := a0_ (Kd.V_lower (v4_ (ok' := fun k_ => True) ho0 (fun k_ hk_ => trivial)) (below_size (by repeat (first | (with_reducible first | exact HB.out | apply b1_ | apply b2_ | apply b3_) | exact HB.out)))); have n1_ := a0_ (below_step (by repeat (first | (with_reducible first | exact HB.out | apply b1_ | apply b2_ | apply b3_) | exact HB.out)) hb); clear HB; have HO327 := n0_; have HB := n1_; clear n0_ n1_; (try clear hb); (try clear hb2); (try clear hk); (try clear hi); (try clear ho0)) | ((with_reducible refine gate_dst (N := 9) rfl ?_); refine box_event ?hg (N := 9) ?hd (cs := #[.bool false, .slice none 0 0]) (t := 26) ?hr ?_; (case hd => rfl); (case hg => rfl); (case hr => first | (go_simp; done) | (go_simp; rfl)); intro gb328 hg w217 hbox hb; have n0_ := a0_ (Kd.V_below (Kd.V_elderB (by (with_reducible repeat (first | apply v1_ | apply v2_ | apply v3_)); exact HO327.out) gb328 (Nat.le_of_eq hg.symm)) hb); have n1_ := a0_ (below_step (by repeat (first | (with_reducible first | exact HB.out | apply b1_ | apply b2_ | apply b3_) | exact HB.out)) hb); have n2_ := a0_ (hbox); have n3_ := a0_ ((by rw [hg]; exact (below_size (by repeat (first | (with_reducible first | exact HB.out | apply b1_ | apply b2_ | apply b3_) | exact HB.out))) : w.heap.size ≤ gb328)); have n4_ := a0_ ((by rw [hg]; exact (below_size (by repeat (first | (with_reducible first | exact HB.out | apply b1_ | apply b2_ | apply b3_) | exact HB.out))) : w.heap.size ≤ gb328)); clear HO327; clear HB; have HO327 := n0_; have HB := n1_; have BK328 := n2_; have GW328 := n3_; have GE328 := n4_; clear n0_ n1_ n2_ n3_ n4_; clear hb hbox hg; have hcz218_0 : w217.cell? ⟨gb328, 0, none⟩ = some (.bool false) := (blk_cell BK328.out 0).trans rfl; have hcz218_1 : w217.cell? ⟨gb328, 1, none⟩ = some (.slice none 0 0) := (blk_cell BK328.out 1).trans rfl; have hfz218_0 := blk_frozen BK328.out 0; have hfz218_1 := blk_frozen BK328.out 1; obtain ⟨Ao219, co219, eo219⟩ := Kd.V_slice HO327.out; subst eo219))
       have n0_ : Aside0 (Kd.V (Kd.int .u32) 40 ((w217.setCell ⟨gb328, 0, none⟩ (.bool t324)).setCell ⟨gb328, 1, none⟩ (.slice Ao219 t325.length co219)) w.heap.size (fun k_ => k_ ≠ gb328) (.slice Ao219 t325.length co219) t325) := ⟨by (with_reducible repeat (first | apply v1_ | apply v2_ | apply v3_)); exact v4_ (v5_ (p := ⟨gb328, 1, none⟩) (v5_ (p := ⟨gb328, 0, none⟩) (v4_ HO327.out (fun k_ hk => (⟨hk, hk.2⟩ : _ ∧ k_ ≠ gb328))) (fun _ hk => hk.2) (.bool t324)) (fun _ hk => hk.2) (.slice Ao219 t325.length co219)) (fun _ hk => hk.1.2)⟩
       have n1_ : Aside0 (((w217.setCell ⟨gb328, 0, none⟩ (.bool t324)).setCell ⟨gb328, 1, none⟩ (.slice Ao219 t325.length co219)).heap[gb328]? = some (.cells #[.bool t324, .slice Ao219 t325.length co219] 26 (0, 0))) := ⟨by (with_reducible repeat (first | refine k1_ ?_ _ | refine k2_ ?_ | refine k3_ ?_ _)); refine blk_put (cs := #[.bool t324, .slice none 0 0]) ?_ 1 _ rfl; (with_reducible repeat (first | refine k1_ ?_ _ | refine k2_ ?_ | refine k3_ ?_ _)); refine blk_put (cs := #[.bool false, .slice none 0 0]) ?_ 0 _ rfl; (with_reducible repeat (first | refine k1_ ?_ _ | refine k2_ ?_ | refine k3_ ?_ _)); exact BK328.out⟩
       have n2_ : Aside0 (Below w.heap.size w ((w217.setCell ⟨gb328, 0, none⟩ (.bool t324)).setCell ⟨gb328, 1, none⟩ (.slice Ao219 t325.length co219))) := ⟨by repeat (first | (with_reducible first | exact HB.out | apply b1_ | apply b2_ | apply b3_ | refine b4_ ?_ GE328.out) | exact HB.out)⟩
       (try clear HO327)
       (try clear BK328)
       (try clear HB)
       generalize ((w217.setCell ⟨gb328, 0, none⟩ (.bool t324)).setCell ⟨gb328, 1, none⟩ (.slice Ao219 t325.length co219)) = w220 at n0_ n1_ n2_ ⊢
       have HO327 := n0_
       have BK328 := n1_
       have HB := n2_
       clear n0_ n1_ n2_
       have n0_ := a0_ (v3_ HO327.out)
       have n1_ := a0_ (k2_ BK328.out)
       have n2_ := a0_ (b3_ HB.out)
       clear HO327
       clear BK328
       clear HB
       have HO327 := n0_
       have BK328 := n1_
       have HB := n2_
       clear n0_ n1_ n2_
       refine start_ (n := 11) (S := fun w' => w'.cell? ⟨gb328, 0, none⟩ = some (.bool t324) ∧ w'.cell? ⟨gb328, 1, none⟩ = some (.slice Ao219 t325.length co219)) (ds := [10]) #[false, false, false, false, false, false, false, false, false, false, false] (by kernel_rfl) rfl rfl ⟨(blk_cell BK328.out 0).trans rfl, (blk_cell BK328.out 1).trans rfl⟩ (fun hHeld => ?_); refine with_tabW laws_FnUnitConvert.tab7 laws_FnUnitConvert.bits7 (fun HT_ HW_ => ?_)
       generalize w220.drew = w221 at HO327 BK328 HB hHeld ⊢
       refine pure_ (i := 1) (N := some 51) (v := ?_) (a' := ?_) #[false, true, false, false, false, false, false, false, false, false, false] rfl rfl (any_of HT_.out (by kernel_rfl)) (fun _ _ _ h => h) (Or.inl ⟨by rfl, ?_⟩) ?_ ?_
       rotate_left
       ·
        intro w'
        go_simp
        with_reducible rfl
       rotate_left
       ·
        simp only [Act.put, s1_, s2_, s3_, i64_w, i32_w]
        rfl
       refine pure_ (i := 2) (N := some 52) (v := ?_) (a' := ?_) #[false, true, true, false, false, false, false, false, false, false, false] rfl rfl (any_of HT_.out (by kernel_rfl)) (fun _ _ _ h => h) (Or.inl ⟨by rfl, ?_⟩) ?_ ?_
       rotate_left
       ·
        intro w'
        go_simp
        with_reducible rfl
       rotate_left
       ·
        simp only [Act.put, s1_, s2_, s3_, i64_w, i32_w]
        rfl
       refine pure_ (i := 3) (N := some 53) (v := ?_) (a' := ?_) #[false, true, true, true, false, false, false, false, false, false, false] rfl rfl (any_of HT_.out (by kernel_rfl)) (fun _ _ _ h => h) (Or.inl ⟨by rfl, ?_⟩) ?_ ?_
       rotate_left
       ·
        intro w'
        go_simp
        with_reducible rfl
       rotate_left
       ·
        simp only [Act.put, s1_, s2_, s3_, i64_w, i32_w]
        rfl
       refine pure_ (i := 4) (N := some 54) (v := ?_) (a' := ?_) #[false, true, true, true, true, false, false, false, false, false, false] rfl rfl (any_of HT_.out (by kernel_rfl)) (fun _ _ _ h => h) (Or.inl ⟨by rfl, ?_⟩) ?_ ?_
       rotate_left
       ·
        intro w'
        go_simp
        with_reducible rfl
       rotate_left
       ·
        simp only [Act.put, s1_, s2_, s3_, i64_w, i32_w]
        rfl
       refine take_ (i := 0) (N := some 50) (v := ?_) (a' := ?_) #[true, true, true, true, true, false, false, false, false, false, false] rfl rfl (take_ofW HT_.out HW_.out (by kernel_rfl)) (fun _ _ _ h => h) (Or.inl ⟨by rfl, ?_⟩) hHeld ?_ ?_
       rotate_left
       ·
        rintro w' ⟨s0, s1⟩
        go_simp
        with_reducible rfl
       rotate_left
       ·
        simp only [Act.put, s1_, s2_, s3_, i64_w, i32_w]
        rfl
       refine one_ (i := 5) (N := some 55) #[true, true, true, true, true, true, false, false, false, false, false] rfl rfl (one_of HT_.out (by kernel_rfl)) (by decide) (fun K hK => ?_)
       refine goes_ Tryd.func7 (by kernel_rfl) rfl #[.int .i64 (wrap64 (3 * (wrap64 (a0 - a1))))] (by rfl) rfl rfl (by (try simp only [List.map_toArray, List.map_cons, List.map_nil]); first | done | rfl | (simp only [List.length_drop, List.length_take]; rfl)) ?_
       with_reducible refine (spec_Ten.calls kj4 (wrap64 (3 * (wrap64 (a0 - a1)))) t344 t345 _ A123.out).mono ?_
       rintro e w222 ⟨v346, rfl, ho0, hb⟩
       refine ⟨_, rfl, ?_⟩
       have n0_ := a0_ (Kd.V_below (by (with_reducible repeat (first | apply v1_ | apply v2_ | apply v3_)); exact HO327.out) hb)
       have n1_ := a0_ (Kd.V_lower (v4_ (ok' := fun k_ => k_ ≠ gb328) ho0 (fun k_ hk_ => (Kd.freshB (g := gb328) (o := .cells #[.bool t324, .slice Ao219 t325.length co219] 26 (0, 0)) (by (with_reducible repeat (first | refine k1_ ?_ _ | refine k2_ ?_ | refine k3_ ?_ _)); exact BK328.out) k_ hk_))) (below_size (by repeat (first | (with_reducible first | exact HB.out | apply b1_ | apply b2_ | apply b3_ | refine b4_ ?_ GE328.out) | exact HB.out))))
       have n2_ := a0_ (blk_below (g := gb328) (o := .cells #[.bool t324, .slice Ao219 t325.length co219] 26 (0, 0)) (by (with_reducible repeat (first | refine k1_ ?_ _ | refine k2_ ?_ | refine k3_ ?_ _)); exact BK328.out) hb)
       have n3_ := a0_ (below_step (by repeat (first | (with_reducible first | exact HB.out | apply b1_ | apply b2_ | apply b3_ | refine b4_ ?_ GE328.out) | exact HB.out)) hb)
       clear HO327
       clear BK328
       clear HB
       have HO327 := n0_
       have HO347 := n1_
       have BK328 := n2_
       have HB := n3_
       clear n0_ n1_ n2_ n3_
       (try clear hb)
       (try clear hb2)
       (try clear hk)
       (try clear hi)
       (try clear ho0)
       obtain ⟨Ao223, co223, eo223⟩ := Kd.V_slice HO347.out
       (first | subst eo223 | (injection eo223 with f1_ f2_ f3_; have f4_ := f1_.symm; have f5_ := f3_.symm; clear f1_ f2_ f3_; subst f4_; subst f5_))
       refine hK.out _ _ ⟨(blk_cell BK328.out 0).trans rfl, (blk_cell BK328.out 1).trans rfl⟩ (fun hHeld => ?_)
       clear hK K
       refine norm_ (a' := ?_) ?_ ?_
       rotate_left
       ·
        show Act.put _ (some 55) _ = _
        simp only [Act.put, s1_, s2_, s3_, i64_w, i32_w]
        rfl
       refine one_ (i := 6) (N := some 56) #[true, true, true, true, true, true, true, false, false, false, false] rfl rfl (one_of HT_.out (by kernel_rfl)) (by decide) (fun K hK => ?_)
       refine goes_ Tryd.func8 (by kernel_rfl) rfl #[.agg #[.bool t324, .slice Ao219 t325.length co219], .agg #[.bool t344, .slice Ao223 t345.length co223]] (by rfl) rfl rfl (by (try simp only [List.map_toArray, List.map_cons, List.map_nil]); first | done | rfl | (simp only [List.length_drop, List.length_take]; rfl)) ?_
       with_reducible refine (spec_WideDiv.calls kj4 t324 _ _ t325 t344 _ _ t345 t348 t349 t352 t353 _ ?side1 ?side2 ?side3 ?side4 A124.out).mono ?_
       (case side1 => repeat (first | exact (Kd.V_reads' HO327.out).2.2 | (with_reducible refine Kd.C_alloc ?_ _) | (with_reducible refine Kd.C_drewN ?_ _) | (with_reducible refine Kd.C_drew ?_)))
       (case side2 => exact (Kd.V_reads' HO327.out).2.1)
       (case side3 => repeat (first | exact (Kd.V_reads' HO347.out).2.2 | (with_reducible refine Kd.C_alloc ?_ _) | (with_reducible refine Kd.C_drewN ?_ _) | (with_reducible refine Kd.C_drew ?_)))
       (case side4 => exact (Kd.V_reads' HO347.out).2.1)
       rintro e w224 ⟨v350, v354, rfl, ho0, ho1, hb⟩
       refine ⟨_, rfl, ?_⟩
       have n0_ := a0_ (Kd.V_below (by (with_reducible repeat (first | apply v1_ | apply v2_ | apply v3_)); exact HO327.out) hb)
       have n1_ := a0_ (Kd.V_below (by (with_reducible repeat (first | apply v1_ | apply v2_ | apply v3_)); exact HO347.out) hb)
       have n2_ := a0_ (Kd.V_lower (v4_ (ok' := fun k_ => k_ ≠ gb328) ho0 (fun k_ hk_ => (Kd.freshB (g := gb328) (o := .cells #[.bool t324, .slice Ao219 t325.length co219] 26 (0, 0)) (by (with_reducible repeat (first | refine k1_ ?_ _ | refine k2_ ?_ | refine k3_ ?_ _)); exact BK328.out) k_ hk_))) (below_size (by repeat (first | (with_reducible first | exact HB.out | apply b1_ | apply b2_ | apply b3_ | refine b4_ ?_ GE328.out) | exact HB.out))))
       have n3_ := a0_ (Kd.V_lower (v4_ (ok' := fun k_ => k_ ≠ gb328) ho1 (fun k_ hk_ => (Kd.freshB (g := gb328) (o := .cells #[.bool t324, .slice Ao219 t325.length co219] 26 (0, 0)) (by (with_reducible repeat (first | refine k1_ ?_ _ | refine k2_ ?_ | refine k3_ ?_ _)); exact BK328.out) k_ hk_))) (below_size (by repeat (first | (with_reducible first | exact HB.out | apply b1_ | apply b2_ | apply b3_ | refine b4_ ?_ GE328.out) | exact HB.out))))
       have n4_ := a0_ (blk_below (g := gb328) (o := .cells #[.bool t324, .slice Ao219 t325.length co219] 26 (0, 0)) (by (with_reducible repeat (first | refine k1_ ?_ _ | refine k2_ ?_ | refine k3_ ?_ _)); exact BK328.out) hb)
       have n5_ := a0_ (below_step (by repeat (first | (with_reducible first | exact HB.out | apply b1_ | apply b2_ | apply b3_ | refine b4_ ?_ GE328.out) | exact HB.out)) hb)
       clear HO327
       clear HO347
       clear BK328
       clear HB
       have HO327 := n0_
       have HO347 := n1_
       have HO351 := n2_
       have HO355 := n3_
       have BK328 := n4_
       have HB := n5_
       clear n0_ n1_ n2_ n3_ n4_ n5_
       (try clear hb)
       (try clear hb2)
       (try clear hk)
       (try clear hi)
       (try clear ho0)
       (try clear ho1)
       obtain ⟨Ao226, co226, eo226⟩ := Kd.V_slice HO351.out
       (first | subst eo226 | (injection eo226 with f1_ f2_ f3_; have f4_ := f1_.symm; have f5_ := f3_.symm; clear f1_ f2_ f3_; subst f4_; subst f5_))
       refine hK.out _ _ ⟨(blk_cell BK328.out 0).trans rfl, (blk_cell BK328.out 1).trans rfl⟩ (fun hHeld => ?_)
       clear hK K
       refine norm_ (a' := ?_) ?_ ?_
       rotate_left
       ·
        show Act.put _ (some 56) _ = _
        simp only [Act.put, s1_, s2_, s3_, i64_w, i32_w]
        rfl
       refine pure_ (i := 7) (N := some 49) (v := ?_) (a' := ?_) #[true, true, true, true, true, true, true, true, false, false, false] rfl rfl (any_of HT_.out (by kernel_rfl)) (fun _ _ _ h => h) (Or.inl ⟨by rfl, ?_⟩) ?_ ?_
       rotate_left
       ·
        intro w'
        go_simp
        with_reducible rfl
       rotate_left
       ·
        simp only [Act.put, s1_, s2_, s3_, i64_w, i32_w]
        rfl
       refine pure_ (i := 8) (N := some 57) (v := ?_) (a' := ?_) #[true, true, true, true, true, true, true, true, true, false, false] rfl rfl (any_of HT_.out (by kernel_rfl)) (fun _ _ _ h => h) (Or.inl ⟨by rfl, ?_⟩) ?_ ?_
       rotate_left
       ·
        intro w'
        go_simp
        with_reducible rfl
       rotate_left
       ·
        simp only [Act.put, s1_, s2_, s3_, i64_w, i32_w]
        rfl
       refine pure_ (i := 9) (N := some 58) (v := ?_) (a' := ?_) #[true, true, true, true, true, true, true, true, true, true, false] rfl rfl (any_of HT_.out (by kernel_rfl)) (fun _ _ _ h => h) (Or.inl ⟨by rfl, ?_⟩) ?_ ?_
       rotate_left
       ·
        intro w'
        go_simp
        with_reducible rfl
       rotate_left
       ·
        simp only [Act.put, s1_, s2_, s3_, i64_w, i32_w]
        rfl
       refine last_ (i := 10) (N := none) #[true, true, true, true, true, true, true, true, true, true, true] rfl rfl (one_of HT_.out (by kernel_rfl)) (by decide) (fun K hK => ?_)
       have hs225 : w224.cell? ⟨gb328, 0, none⟩ = some (.bool t324) := (blk_cell BK328.out 0).trans rfl
       have hfs225 := blk_frozen BK328.out 0
       have hs227 : w224.cell? ⟨gb328, 1, none⟩ = some (.slice Ao219 t325.length co219) := (blk_cell BK328.out 1).trans rfl
       have hfs227 := blk_frozen BK328.out 1
       refine skip_ (w1 := ?_) (by rfl) rfl ?_ ?_
       rotate_left
       ·
        go_simp
        rfl
       refine hK.out _ _ ?_
       clear hK K
       refine done_ (done_of HT_.out (by kernel_rfl)) ?_
       have n0_ : Aside0 (Kd.V (Kd.int .u32) 40 ((w224.setCell ⟨gb328, 0, none⟩ (.bool t348)).setCell ⟨gb328, 1, none⟩ (.slice Ao226 t349.length co226)) w.heap.size (fun k_ => k_ ≠ gb328) (.slice Ao219 t325.length co219) t325) := ⟨by (with_reducible repeat (first | apply v1_ | apply v2_ | apply v3_)); exact v4_ (v5_ (p := ⟨gb328, 1, none⟩) (v5_ (p := ⟨gb328, 0, none⟩) (v4_ HO327.out (fun k_ hk => (⟨hk, hk⟩ : _ ∧ k_ ≠ gb328))) (fun _ hk => hk.2) (.bool t348)) (fun _ hk => hk.2) (.slice Ao226 t349.length co226)) (fun _ hk => hk.1)⟩
       have n1_ : Aside0 (Kd.V (Kd.int .u32) 40 ((w224.setCell ⟨gb328, 0, none⟩ (.bool t348)).setCell ⟨gb328, 1, none⟩ (.slice Ao226 t349.length co226)) w.heap.size (fun k_ => k_ ≠ gb328) (.slice Ao223 t345.length co223) t345) := ⟨by (with_reducible repeat (first | apply v1_ | apply v2_ | apply v3_)); exact v4_ (v5_ (p := ⟨gb328, 1, none⟩) (v5_ (p := ⟨gb328, 0, none⟩) (v4_ HO347.out (fun k_ hk => (⟨hk, hk⟩ : _ ∧ k_ ≠ gb328))) (fun _ hk => hk.2) (.bool t348)) (fun _ hk => hk.2) (.slice Ao226 t349.length co226)) (fun _ hk => hk.1)⟩
       have n2_ : Aside0 (Kd.V (Kd.int .u32) 40 ((w224.setCell ⟨gb328, 0, none⟩ (.bool t348)).setCell ⟨gb328, 1, none⟩ (.slice Ao226 t349.length co226)) w.heap.size (fun k_ => k_ ≠ gb328) (.slice Ao226 t349.length co226) t349) := ⟨by (with_reducible repeat (first | apply v1_ | apply v2_ | apply v3_)); exact v4_ (v5_ (p := ⟨gb328, 1, none⟩) (v5_ (p := ⟨gb328, 0, none⟩) (v4_ HO351.out (fun k_ hk => (⟨hk, hk⟩ : _ ∧ k_ ≠ gb328))) (fun _ hk => hk.2) (.bool t348)) (fun _ hk => hk.2) (.slice Ao226 t349.length co226)) (fun _ hk => hk.1)⟩
       have n3_ : Aside0 (Kd.V (Kd.int .u32) 40 ((w224.setCell ⟨gb328, 0, none⟩ (.bool t348)).setCell ⟨gb328, 1, none⟩ (.slice Ao226 t349.length co226)) w.heap.size (fun k_ => k_ ≠ gb328) v354 t353) := ⟨by (with_reducible repeat (first | apply v1_ | apply v2_ | apply v3_)); exact v4_ (v5_ (p := ⟨gb328, 1, none⟩) (v5_ (p := ⟨gb328, 0, none⟩) (v4_ HO355.out (fun k_ hk => (⟨hk, hk⟩ : _ ∧ k_ ≠ gb328))) (fun _ hk => hk.2) (.bool t348)) (fun _ hk => hk.2) (.slice Ao226 t349.length co226)) (fun _ hk => hk.1)⟩
       have n4_ : Aside0 (((w224.setCell ⟨gb328, 0, none⟩ (.bool t348)).setCell ⟨gb328, 1, none⟩ (.slice Ao226 t349.length co226)).heap[gb328]? = some (.cells #[.bool t348, .slice Ao226 t349.length co226] 26 (0, 0))) := ⟨by (with_reducible repeat (first | refine k1_ ?_ _ | refine k2_ ?_ | refine k3_ ?_ _)); refine blk_put (cs := #[.bool t348, .slice Ao219 t325.length co219]) ?_ 1 _ rfl; (with_reducible repeat (first | refine k1_ ?_ _ | refine k2_ ?_ | refine k3_ ?_ _)); refine blk_put (cs := #[.bool t324, .slice Ao219 t325.length co219]) ?_ 0 _ rfl; (with_reducible repeat (first | refine k1_ ?_ _ | refine k2_ ?_ | refine k3_ ?_ _)); exact BK328.out⟩
       have n5_ : Aside0 (Below w.heap.size w ((w224.setCell ⟨gb328, 0, none⟩ (.bool t348)).setCell ⟨gb328, 1, none⟩ (.slice Ao226 t349.length co226))) := ⟨by repeat (first | (with_reducible first | exact HB.out | apply b1_ | apply b2_ | apply b3_ | refine b4_ ?_ GE328.out) | exact HB.out)⟩
       (try clear HO327)
       (try clear HO347)
       (try clear HO351)
       (try clear HO355)
       (try clear BK328)
       (try clear HB)
       generalize ((w224.setCell ⟨gb328, 0, none⟩ (.bool t348)).setCell ⟨gb328, 1, none⟩ (.slice Ao226 t349.length co226)) = w228 at n0_ n1_ n2_ n3_ n4_ n5_ ⊢
       have HO327 := n0_
       have HO347 := n1_
       have HO351 := n2_
       have HO355 := n3_
       have BK328 := n4_
       have HB := n5_
       clear n0_ n1_ n2_ n3_ n4_ n5_
       have hcz229_0 : w228.cell? ⟨gb328, 0, none⟩ = some (.bool t348) := (blk_cell BK328.out 0).trans rfl
       have hcz229_1 : w228.cell? ⟨gb328, 1, none⟩ = some (.slice Ao226 t349.length co226) := (blk_cell BK328.out 1).trans rfl
       have hfz229_0 := blk_frozen BK328.out 0
       have hfz229_1 := blk_frozen BK328.out 1
       try go_wp2_with (first | ((with_reducible refine gate_callee (f := 9) rfl ?_); refine goesL_ (some 61) rfl rfl Tryd.func9 (by kernel_rfl) rfl #[.agg #[.bool t348, .slice Ao226 t349.length co226], .int .i64 1] rfl (by (try simp only [List.map_toArray, List.map_cons, List.map_nil]); first | done | rfl | (simp only [List.length_drop, List.length_take]; rfl)) ?_; (with_reducible refine (spec_ToWords.calls kj4 t348 (fun k_ => k_ ≠ gb328) _ _ t349 1 t356 false _ ?side1 A125.out).mono ?_); (case side1 => exact HO351.out); rintro e w230 ⟨v357, rfl, ho0, hb⟩; refine ⟨_, rfl, ?_⟩; have n0_ := a0_ (Kd.V_elder' (by (with_reducible repeat (first | apply v1_ | apply v2_ | apply v3_)); exact HO327.out) (Kd.R_base ho0) hb); have n1_ := a0_ (Kd.V_elder' (by (with_reducible repeat (first | apply v1_ | apply v2_ | apply v3_)); exact HO347.out) (Kd.R_base ho0) hb); have n2_ := a0_ (Kd.V_elder' (by (with_reducible repeat (first | apply v1_ | apply v2_ | apply v3_)); exact HO351.out) (Kd.R_base ho0) hb); have n3_ := a0_ (Kd.V_elder' (by (with_reducible repeat (first | apply v1_ | apply v2_ | apply v3_)); exact HO355.out) (Kd.R_base ho0) hb); have n4_ := a0_ (Kd.R_lower (Kd.R_mono (ok' := fun k_ => True) ho0 (fun _ hk_ => trivial)) (below_size (by repeat (first | (with_reducible first | exact HB.out | apply b1_ | apply b2_ | apply b3_ | refine b4_ ?_ GE328.out) | exact HB.out)))); have n5_ := a0_ (blk_below (g := gb328) (o := .cells #[.bool t348, .slice Ao226 t349.length co226] 26 (0, 0)) (by (with_reducible repeat (first | refine k1_ ?_ _ | refine k2_ ?_ | refine k3_ ?_ _)); exact BK328.out) hb); have n6_ := a0_ (below_step (by repeat (first | (with_reducible first | exact HB.out | apply b1_ | apply b2_ | apply b3_ | refine b4_ ?_ GE328.out) | exact HB.out)) hb); clear HO327; clear HO347; clear HO351; clear HO355; clear BK328; clear HB; have HO327 := n0_; have HO347 := n1_; have HO351 := n2_; have HO355 := n3_; have HO358 := n4_; have BK328 := n5_; have HB := n6_; clear n0_ n1_ n2_ n3_ n4_ n5_ n6_; (try clear hb); (try clear hb2); (try clear hk); (try clear hi); (try clear ho0)) | ((with_reducible refine gate_callee (f := 4) rfl ?_); refine goesL_ (some 68) rfl rfl Tryd.func4 (by kernel_rfl) rfl #[.int .i64 a0, .int .i64 a1, .int .i64 a2] rfl (by (try simp only [List.map_toArray, List.map_cons, List.map_nil]); first | done | rfl | (simp only [List.length_drop, List.length_take]; rfl)) ?_; (with_reducible refine (impl_UnitConvert.calls a0 a1 a2 t360 t361 _ A126.out (HTAB.out.below (by repeat (first | (with_reducible first | exact HB.out | apply b1_ | apply b2_ | apply b3_ | refine b4_ ?_ GE328.out) | exact HB.out)))).mono ?_); rintro e w231 ⟨rfl, hb⟩; refine ⟨_, rfl, ?_⟩; have n0_ := a0_ (Kd.V_below (by (with_reducible repeat (first | apply v1_ | apply v2_ | apply v3_)); exact HO327.out) hb); have n1_ := a0_ (Kd.V_below (by (with_reducible repeat (first | apply v1_ | apply v2_ | apply v3_)); exact HO347.out) hb); have n2_ := a0_ (Kd.V_below (by (with_reducible repeat (first | apply v1_ | apply v2_ | apply v3_)); exact HO351.out) hb); have n3_ := a0_ (Kd.V_below (by (with_reducible repeat (first | apply v1_ | apply v2_ | apply v3_)); exact HO355.out) hb); have n4_ := a0_ (Kd.R_below (by (with_reducible repeat (first | apply r1_ | apply r2_ | apply r3_)); exact HO358.out) hb); have n5_ := a0_ (blk_below (g := gb328) (o := .cells #[.bool t348, .slice Ao226 t349.length co226] 26 (0, 0)) (by (with_reducible repeat (first | refine k1_ ?_ _ | refine k2_ ?_ | refine k3_ ?_ _)); exact BK328.out) hb); have n6_ := a0_ (below_step (by repeat (first | (with_reducible first | exact HB.out | apply b1_ | apply b2_ | apply b3_ | refine b4_ ?_ GE328.out) | exact HB.out)) hb); clear HO327; clear HO347; clear HO351; clear HO355; clear HO358; clear BK328; clear HB; have HO327 := n0_; have HO347 := n1_; have HO351 := n2_; have HO355 := n3_; have HO358 := n4_; have BK328 := n5_; have HB := n6_; clear n0_ n1_ n2_ n3_ n4_ n5_ n6_; (try clear hb); (try clear hb2); (try clear hk); (try clear hi)))
       go_ret
       exact ⟨by first | rfl | (simp [e1_, e2_] <;> rfl) | (simp [*, e1_, e2_] <;> rfl), by repeat (first | (with_reducible first | exact HB.out | apply b1_ | apply b2_ | apply b3_ | refine b4_ ?_ GE328.out) | exact HB.out)⟩

/-- THE ONE PURE STATEMENT of laws_FnUnitConvert: yours. -/
def laws_FnUnitConvert.Pure : Prop := ∀ (a0 : Int) (a1 : Int) (a2 : Int), (Lit.int .i64 a0).wf = true → (Lit.int .i64 a1).wf = true → (Lit.int .i64 a2).wf = true → ∃ k, laws_FnUnitConvert.f k a0 a1 a2 = some true
theorem laws_FnUnitConvert.walk (P : laws_FnUnitConvert.Pure) (a0 : Int) (a1 : Int) (a2 : Int) (w : World) (hT : TabAt w) (w0 : (Lit.int .i64 a0).wf = true) (w1 : (Lit.int .i64 a1).wf = true) (w2 : (Lit.int .i64 a2).wf = true) :
  Calls Tryd.prog 3 #[.int .i64 a0, .int .i64 a1, .int .i64 a2] w fun e w' => e = .returned (.bool true) ∧ Below w.heap.size w w' := by
 obtain ⟨k, h⟩ := P a0 a1 a2 w0 w1 w2
 refine (laws_FnUnitConvert.calls k a0 a1 a2 true w hT h).mono ?_
 rintro e w' ⟨rfl, hd⟩
 exact ⟨rfl, hd⟩


end Go.Proofs.YtiiicmfobljnaaaDoor.V
