import Derived.Test.YtiiicmfobljnaaaV0
namespace Go.Proofs.Ytiiicmfobljnaaa.V
open Go.RowKit Go.Proofs.YtiiicmfobljnaaaW.PrintWords Go.Proofs.YtiiicmfobljnaaaW.PrintLast Go.Proofs.YtiiicmfobljnaaaW.PrintMore
attribute [local go_sem] max2_int min2_int max_two min_two max_three min_three max_four min_four
set_option linter.unusedVariables false
set_option linter.unusedSimpArgs false

/-! ### spec_trim: function 73 -/
def spec_trim.l0 : Nat → List Int → Option (List Int)
 | 0, _ => none
 | k + 1, x0 => if (x0.length : Int) > 0 then (if 0 ≤ (wrap64 ((x0.length : Int) - 1)) then (if (wrap64 ((x0.length : Int) - 1)) < (x0.length : Int) then (if (rd x0 (wrap64 ((x0.length : Int) - 1))) = 0 then (if (wrap64 ((x0.length : Int) - 1)) ≤ (x0.length : Int) then (spec_trim.l0 k (x0.take ((wrap64 ((x0.length : Int) - 1)) : Int).toNat)) else (none)) else (some x0)) else (none)) else (none)) else (some x0)
def spec_trim.f (k : Nat) (l0 : List Int) : Option (List Int) := spec_trim.l0 k l0
set_option maxHeartbeats 8000000 in
set_option maxRecDepth 100000 in
theorem spec_trim.calls (k : Nat) (P0_ : Nat → Prop) (A0 : Option Addr) (c0 : Nat) (l0 : List Int) (r : List Int) (w : World) (hs0 : Kd.V (Kd.int .u32) 96 w w.heap.size (fun k_ => P0_ k_) (.slice A0 l0.length c0) l0) (h : spec_trim.f k l0 = some r) :
  Calls Try.prog 73 #[.slice A0 l0.length c0] w fun e w' => ∃ v0_ : Value, e = .returned (v0_) ∧ Kd.V (Kd.int .u32) 96 w' w.heap.size (fun k_ => (P0_ k_ ∨ w.heap.size ≤ k_)) v0_ r ∧ Below w.heap.size w w' := by
 have HO0 := a0_ (show Kd.V (Kd.int .u32) 96 w w.heap.size (fun k_ => (P0_ k_ ∨ w.heap.size ≤ k_)) (.slice A0 l0.length c0) l0 from v4_ hs0 (fun k_ hk => .inl hk))
 have HB := a0_ (Below.refl w.heap.size w)
 have H : (spec_trim.l0 k l0) = some r := h
 clear h
 have H' := a0_ H
 clear H
 go_enter Try.func73, Try.ntmps73
 go_wp2
 go_loopg [0] k (fun kq v0 w' => ∃ (x0_1 : List Int), Aside0 (spec_trim.l0 kq x0_1 = some r) ∧ Aside0 (kq ≤ k) ∧ Aside0 (Kd.V (Kd.int .u32) 96 w' w.heap.size (fun k_ => (P0_ k_ ∨ w.heap.size ≤ k_)) v0 x0_1) ∧ Aside0 (Below w.heap.size w w'))
 case atStart => exact ⟨(l0), H', ⟨Nat.le_refl _⟩, ⟨by (with_reducible repeat (first | apply v1_ | apply v2_ | apply v3_)); exact HO0.out⟩, ⟨by repeat (first | (with_reducible first | exact HB.out | apply b1_ | apply b2_ | apply b3_) | exact HB.out)⟩⟩
 case round =>
  clear H'
  obtain ⟨x0_1, HA, HK1, HO_0, HB⟩ := hrel
  cases gk with
  | zero => exact absurd HA.out (by simp [spec_trim.l0])
  | succ k1 =>
   have H := HA.out
   clear HA
   simp only [spec_trim.l0] at H
   by_cases c2 : (x0_1.length : Int) > 0
   ·
    rw [if_pos c2] at H
    have c2b0 : decide (0 < (x0_1.length : Int)) = true := d2_ c2
    have c2b1 : decide (0 < x0_1.length) = true := d2_ (by omega)
    clear c2
    obtain ⟨ji3, hji3⟩ : ∃ j_ : Int, (wrap64 ((x0_1.length : Int) - 1)) = j_ := ⟨_, rfl⟩
    replace H : (if 0 ≤ (ji3) then (if (ji3) < (x0_1.length : Int) then (if (rd x0_1 (ji3)) = 0 then (if (ji3) ≤ (x0_1.length : Int) then (spec_trim.l0 k1 (x0_1.take ((ji3) : Int).toNat)) else (none)) else (some x0_1)) else (none)) else (none)) = some r := by first | (rw [hji3] at H; exact H) | (simp only [hji3] at H ⊢; exact H)
    have hji3w : (IntKind.i64.wrap ((x0_1.length : Int) - 1)) = ji3 := (i64_w _).trans hji3
    by_cases c4 : 0 ≤ (ji3)
    ·
     rw [if_pos c4] at H
     have c4b0 : decide (0 ≤ (ji3)) = true := d2_ c4
     clear c4
     by_cases c5 : (ji3) < (x0_1.length : Int)
     ·
      rw [if_pos c5] at H
      have c5b0 : decide ((ji3) < (x0_1.length : Int)) = true := d2_ c5
      clear c5
      by_cases c6 : (rd x0_1 (ji3)) = 0
      ·
       rw [if_pos c6] at H
       have c6b0 : ((rd x0_1 (ji3)) == 0) = true := beq_iff_eq.mpr c6
       have c6b1 : ((rd x0_1 (ji3)) != 0) = false := bne_eq_false_iff_eq.mpr c6
       clear c6
       have c7b0 := eq_true (d1_ (by first | (with_reducible assumption) | assumption) : 0 ≤ (ji3))
       by_cases c8 : (ji3) ≤ (x0_1.length : Int)
       ·
        rw [if_pos c8] at H
        have c8b0 := eq_true c8
        have c8b1 : decide ((ji3) ≤ (x0_1.length : Int)) = true := d2_ c8
        clear c8
        obtain ⟨y107, hy107⟩ : ∃ y_ : List Int, y_ = (x0_1.take ((ji3) : Int).toNat) := ⟨_, rfl⟩
        replace H : (spec_trim.l0 k1 y107) = some r := by first | (rw [hy107]; with_reducible exact H) | (have H2_ := (o2_ _ _).symm.trans H; rw [hy107]; with_reducible exact H2_) | (have H2_ := (o2_ _ _).symm.trans H; with_reducible exact H2_) | with_reducible exact H | (rw [hy107]; exact H) | exact H
        have Ny107 := a0_ hy107
        clear hy107
        have H' := a0_ H
        clear H
        obtain ⟨Ao9, co9, eo9⟩ := Kd.V_slice HO_0.out
        subst eo9
        have p106 : 0 ≤ ((ji3) : Int) := d1_ (by first | (with_reducible assumption) | assumption)
        have q106 : (ji3) < (x0_1.length : Int) := d1_ (by first | (with_reducible assumption) | assumption)
        obtain ⟨ad106, e106, hx106_0⟩ := Kd.at_int (Kd.V_reads' HO_0.out).2.2 (ji3) p106 q106
        cases e106
        replace p106 := eq_true p106
        replace q106 := eq_true q106
        have q10 : ((ji3) : Int) ≤ ((x0_1.length : Int) : Int) := d1_ (by first | (with_reducible assumption) | assumption)
        obtain ⟨i010, hi010, _, hsz10, _⟩ := info_parts info96
        have hroom10 : x0_1.length ≤ co9 := (Kd.V_reads' HO_0.out).2.1
        have hC10 : Kd.F (Kd.int .u32) _ _ (some ad106) x0_1.length x0_1 := (Kd.V_at (base := w.heap.size) HO_0.out).2.2
        have hcut10 := cut_to (P := Try.prog) 27 96 .i64 Try.underlying27 hi010 (some ad106) x0_1.length co9 (ji3) (d1_ (by first | (with_reducible assumption) | assumption)) q10 hroom10
        have hr10 := Kd.F_take (m := ((ji3) : Int).toNat) hC10 (by omega)
        have hy10 : y107.length = ((ji3) : Int).toNat := (by rw [Ny107.out, List.length_take]; omega)
        rw [← Ny107.out] at hr10
        rw [← hy10] at hcut10
        have HO111 := a0_ (show Kd.V (Kd.int .u32) 96 _ w.heap.size _ (.slice (some ad106) y107.length co9) y107 from Kd.V_mk (by omega) hr10)
        have HC111 := a0_ (show y107.length ≤ co9 from by omega)
        clear hr10 hC10 hroom10 hi010 hsz10
        have KY10 := a0_ hy10
        clear hy10
        replace q10 := eq_true q10
        go_wp2
        go_roundg k1
        case measure => have := HK1.out; omega
        case rel => exact ⟨(y107), H', ⟨by have := HK1.out; omega⟩, ⟨by (with_reducible repeat (first | apply v1_ | apply v2_ | apply v3_)); exact HO111.out⟩, ⟨by repeat (first | (with_reducible first | exact HB.out | apply b1_ | apply b2_ | apply b3_) | exact HB.out)⟩⟩
       ·
        rw [if_neg c8] at H
        exact absurd H (by simp)
      ·
       rw [if_neg c6] at H
       have c6b0 : ((rd x0_1 (ji3)) == 0) = false := beq_eq_false_iff_ne.mpr c6
       have c6b1 : ((rd x0_1 (ji3)) != 0) = true := bne_iff_ne.mpr c6
       obtain rfl := o1_ H
       obtain ⟨Ao11, co11, eo11⟩ := Kd.V_slice HO_0.out
       subst eo11
       have p106 : 0 ≤ ((ji3) : Int) := d1_ (by first | (with_reducible assumption) | assumption)
       have q106 : (ji3) < (x0_1.length : Int) := d1_ (by first | (with_reducible assumption) | assumption)
       obtain ⟨ad106, e106, hx106_0⟩ := Kd.at_int (Kd.V_reads' HO_0.out).2.2 (ji3) p106 q106
       cases e106
       replace p106 := eq_true p106
       replace q106 := eq_true q106
       go_wp2
       go_ret
       exact ⟨_, by first | rfl | (simp [e1_, e2_] <;> rfl) | (simp only [← hji3]; first | rfl | (simp [e1_, e2_] <;> rfl)) | (simp [*, e1_, e2_] <;> rfl), by (with_reducible repeat (first | apply v1_ | apply v2_ | apply v3_)); exact HO_0.out, by repeat (first | (with_reducible first | exact HB.out | apply b1_ | apply b2_ | apply b3_) | exact HB.out)⟩
     ·
      rw [if_neg c5] at H
      exact absurd H (by simp)
    ·
     rw [if_neg c4] at H
     exact absurd H (by simp)
   ·
    rw [if_neg c2] at H
    have c2b0 : decide (0 < (x0_1.length : Int)) = false := d3_ c2
    have c2b1 : decide (0 < x0_1.length) = false := d3_ (by omega)
    clear c2
    obtain rfl := o1_ H
    obtain ⟨Ao12, co12, eo12⟩ := Kd.V_slice HO_0.out
    subst eo12
    go_wp2
    go_ret
    exact ⟨_, by first | rfl | (simp [e1_, e2_] <;> rfl) | (simp [*, e1_, e2_] <;> rfl), by (with_reducible repeat (first | apply v1_ | apply v2_ | apply v3_)); exact HO_0.out, by repeat (first | (with_reducible first | exact HB.out | apply b1_ | apply b2_ | apply b3_) | exact HB.out)⟩

/-! ### spec_wide: function 30 -/
def spec_wide.f (k : Nat) (a0 : Bool) (l1 : List Int) : Option (Bool × List Int) := (spec_trim.f k l1).bind fun t113 => (if a0 = true then (some (decide (0 < t113.length), t113)) else (some (false, t113)))
set_option maxHeartbeats 8000000 in
set_option maxRecDepth 100000 in
theorem spec_wide.calls (k : Nat) (a0 : Bool) (P1_ : Nat → Prop) (A1 : Option Addr) (c1 : Nat) (l1 : List Int) (r1 : Bool) (r2 : List Int) (w : World) (hs1 : Kd.V (Kd.int .u32) 96 w w.heap.size (fun k_ => P1_ k_) (.slice A1 l1.length c1) l1) (h : spec_wide.f k a0 l1 = some (r1, r2)) :
  Calls Try.prog 30 #[.bool a0, .slice A1 l1.length c1] w fun e w' => ∃ v1_ : Value, e = .returned (.agg #[.bool r1, v1_]) ∧ Kd.V (Kd.int .u32) 96 w' w.heap.size (fun k_ => (P1_ k_ ∨ w.heap.size ≤ k_)) v1_ r2 ∧ Below w.heap.size w w' := by
 have hu29 := Try.underlying29
 have HO1 := a0_ (show Kd.V (Kd.int .u32) 96 w w.heap.size (fun k_ => (P1_ k_ ∨ w.heap.size ≤ k_)) (.slice A1 l1.length c1) l1 from v4_ hs1 (fun k_ hk => .inl hk))
 have HB := a0_ (Below.refl w.heap.size w)
 have H : ((spec_trim.f k l1).bind fun t113 => (if a0 = true then (some (decide (0 < t113.length), t113)) else (some (false, t113)))) = some (r1, r2) := h
 clear h
 replace H := Option.bind_eq_some_iff.mp H
 obtain ⟨t113, A30, H⟩ := H
 replace H : (if a0 = true then (some (decide (0 < t113.length), t113)) else (some (false, t113))) = some (r1, r2) := H
 have A3 := a0_ A30
 clear A30
 by_cases c4 : a0 = true
 ·
  subst c4
  have H1 : (some (decide (0 < t113.length), t113)) = some (r1, r2) := by rw [if_pos rfl] at H; exact H
  clear H
  have H := H1
  clear H1
  simp only [Option.some.injEq, Prod.mk.injEq] at H
  obtain ⟨rfl, rfl⟩ := H
  go_enter Try.func30, Try.ntmps30
  go_wp2_with (first | ((with_reducible refine gate_dst (N := 4) rfl ?_); (try (refine gate_guard (by rfl) ?_; dsimp only)); refine box_event ?hg (N := 4) ?hd (cs := #[.bool false, .slice none 0 0]) (t := 29) ?hr ?_; (case hd => rfl); (case hg => rfl); (case hr => first | (go_simp; done) | (go_simp; rfl)); intro gb112 hg w5 hbox hb; have n0_ := a0_ (Kd.V_below (Kd.V_elderB (by (with_reducible repeat (first | apply v1_ | apply v2_ | apply v3_)); exact HO1.out) gb112 (Nat.le_of_eq hg.symm)) hb); have n1_ := a0_ (below_step (by repeat (first | (with_reducible first | exact HB.out | apply b1_ | apply b2_ | apply b3_) | exact HB.out)) hb); have n2_ := a0_ (hbox); have n3_ := a0_ ((by rw [hg]; exact (below_size (by repeat (first | (with_reducible first | exact HB.out | apply b1_ | apply b2_ | apply b3_) | exact HB.out))) : w.heap.size ≤ gb112)); have n4_ := a0_ ((by rw [hg]; exact (below_size (by repeat (first | (with_reducible first | exact HB.out | apply b1_ | apply b2_ | apply b3_) | exact HB.out))) : w.heap.size ≤ gb112)); clear HO1; clear HB; have HO1 := n0_; have HB := n1_; have BK112 := n2_; have GW112 := n3_; have GE112 := n4_; clear n0_ n1_ n2_ n3_ n4_; clear hb hbox hg) | ((with_reducible refine gate_callee (f := 73) rfl ?_); refine goesL_ (some 6) rfl rfl Try.func73 (by kernel_rfl) rfl #[.slice A1 l1.length c1] rfl (by (try simp only [List.map_toArray, List.map_cons, List.map_nil]); first | done | rfl | (simp only [List.length_drop, List.length_take]; rfl)) ?_; (with_reducible refine (spec_trim.calls k (fun k_ => ((P1_ k_ ∨ w.heap.size ≤ k_) ∧ k_ ≠ gb112)) _ _ l1 t113 _ ?side1 A3.out).mono ?_); (case side1 => exact HO1.out); rintro e w6 ⟨v114, rfl, ho0, hb⟩; refine ⟨_, rfl, ?_⟩; have n0_ := a0_ (Kd.V_below (by (with_reducible repeat (first | apply v1_ | apply v2_ | apply v3_)); exact HO1.out) hb); have n1_ := a0_ (Kd.V_lower (v4_ (ok' := fun k_ => (P1_ k_ ∨ w.heap.size ≤ k_) ∧ k_ ≠ gb112) ho0 (fun k_ hk_ => ⟨Or.elim hk_ (fun hs_ => hs_.1) (fun hn_ => (.inr (Nat.le_trans (below_size (by repeat (first | (with_reducible first | exact HB.out | apply b1_ | apply b2_ | apply b3_ | refine b4_ ?_ GE112.out) | exact HB.out))) hn_))), Or.elim hk_ (fun hs_ => hs_.2) (fun hn_ => (Kd.freshB (g := gb112) (o := .cells #[.bool false, .slice none 0 0] 29 (0, 0)) (by (with_reducible repeat (first | refine k1_ ?_ _ | refine k2_ ?_ | refine k3_ ?_ _)); exact BK112.out) k_ hn_))⟩)) (below_size (by repeat (first | (with_reducible first | exact HB.out | apply b1_ | apply b2_ | apply b3_ | refine b4_ ?_ GE112.out) | exact HB.out)))); have n2_ := a0_ (blk_below (g := gb112) (o := .cells #[.bool false, .slice none 0 0] 29 (0, 0)) (by (with_reducible repeat (first | refine k1_ ?_ _ | refine k2_ ?_ | refine k3_ ?_ _)); exact BK112.out) hb); have n3_ := a0_ (below_step (by repeat (first | (with_reducible first | exact HB.out | apply b1_ | apply b2_ | apply b3_ | refine b4_ ?_ GE112.out) | exact HB.out)) hb); clear HO1; clear BK112; clear HB; have HO1 := n0_; have HO115 := n1_; have BK112 := n2_; have HB := n3_; clear n0_ n1_ n2_ n3_; (try clear hb); (try clear hb2); (try clear hk); (try clear hi); (try clear ho0); obtain ⟨Ao7, co7, eo7⟩ := Kd.V_slice HO115.out; subst eo7; have hcz8_0 : w6.cell? ⟨gb112, 0, none⟩ = some (.bool false) := (blk_cell BK112.out 0).trans rfl; have hcz8_1 : w6.cell? ⟨gb112, 1, none⟩ = some (.slice none 0 0) := (blk_cell BK112.out 1).trans rfl; have hfz8_0 := blk_frozen BK112.out 0; have hfz8_1 := blk_frozen BK112.out 1))
  refine bodyPost_ret (results_cell_row rfl _ _ gb112 29 #[.bool (decide (0 < t113.length)), .slice Ao7 t113.length co7] (0, 0) _ rfl (by (with_reducible repeat (first | refine k1_ ?_ _ | refine k2_ ?_ | refine k3_ ?_ _)); refine blk_put (cs := #[.bool (decide (0 < t113.length)), .slice none 0 0]) ?_ 1 _ rfl; (with_reducible repeat (first | refine k1_ ?_ _ | refine k2_ ?_ | refine k3_ ?_ _)); refine blk_put (cs := #[.bool false, .slice none 0 0]) ?_ 0 _ rfl; (with_reducible repeat (first | refine k1_ ?_ _ | refine k2_ ?_ | refine k3_ ?_ _)); exact BK112.out) Try.underlying29 rfl (by kernel_rfl)) rfl ?_
  exact ⟨_, by first | rfl | (simp [e1_, e2_] <;> rfl) | (simp [*, e1_, e2_] <;> rfl), by (with_reducible repeat (first | apply v1_ | apply v2_ | apply v3_)); exact v4_ (v5_ (p := ⟨gb112, 1, none⟩) (v5_ (p := ⟨gb112, 0, none⟩) (v4_ HO115.out (fun k_ hk => (⟨hk, hk.2⟩ : _ ∧ k_ ≠ gb112))) (fun _ hk => hk.2) (.bool (decide (0 < t113.length)))) (fun _ hk => hk.2) (.slice Ao7 t113.length co7)) (fun _ hk => hk.1.1), by repeat (first | (with_reducible first | exact HB.out | apply b1_ | apply b2_ | apply b3_ | refine b4_ ?_ GE112.out) | exact HB.out)⟩
 ·
  replace c4 := Bool.eq_false_iff.mpr c4
  subst c4
  have H1 : (some (false, t113)) = some (r1, r2) := by rw [if_neg (show ¬ (false = true) by decide)] at H; exact H
  clear H
  have H := H1
  clear H1
  simp only [Option.some.injEq, Prod.mk.injEq] at H
  obtain ⟨rfl, rfl⟩ := H
  go_enter Try.func30, Try.ntmps30
  go_wp2_with (first | ((with_reducible refine gate_dst (N := 4) rfl ?_); (try (refine gate_guard (by rfl) ?_; dsimp only)); refine box_event ?hg (N := 4) ?hd (cs := #[.bool false, .slice none 0 0]) (t := 29) ?hr ?_; (case hd => rfl); (case hg => rfl); (case hr => first | (go_simp; done) | (go_simp; rfl)); intro gb112 hg w9 hbox hb; have n0_ := a0_ (Kd.V_below (Kd.V_elderB (by (with_reducible repeat (first | apply v1_ | apply v2_ | apply v3_)); exact HO1.out) gb112 (Nat.le_of_eq hg.symm)) hb); have n1_ := a0_ (below_step (by repeat (first | (with_reducible first | exact HB.out | apply b1_ | apply b2_ | apply b3_) | exact HB.out)) hb); have n2_ := a0_ (hbox); have n3_ := a0_ ((by rw [hg]; exact (below_size (by repeat (first | (with_reducible first | exact HB.out | apply b1_ | apply b2_ | apply b3_) | exact HB.out))) : w.heap.size ≤ gb112)); have n4_ := a0_ ((by rw [hg]; exact (below_size (by repeat (first | (with_reducible first | exact HB.out | apply b1_ | apply b2_ | apply b3_) | exact HB.out))) : w.heap.size ≤ gb112)); clear HO1; clear HB; have HO1 := n0_; have HB := n1_; have BK112 := n2_; have GW112 := n3_; have GE112 := n4_; clear n0_ n1_ n2_ n3_ n4_; clear hb hbox hg) | ((with_reducible refine gate_callee (f := 73) rfl ?_); refine goesL_ (some 6) rfl rfl Try.func73 (by kernel_rfl) rfl #[.slice A1 l1.length c1] rfl (by (try simp only [List.map_toArray, List.map_cons, List.map_nil]); first | done | rfl | (simp only [List.length_drop, List.length_take]; rfl)) ?_; (with_reducible refine (spec_trim.calls k (fun k_ => ((P1_ k_ ∨ w.heap.size ≤ k_) ∧ k_ ≠ gb112)) _ _ l1 t113 _ ?side1 A3.out).mono ?_); (case side1 => exact HO1.out); rintro e w10 ⟨v114, rfl, ho0, hb⟩; refine ⟨_, rfl, ?_⟩; have n0_ := a0_ (Kd.V_below (by (with_reducible repeat (first | apply v1_ | apply v2_ | apply v3_)); exact HO1.out) hb); have n1_ := a0_ (Kd.V_lower (v4_ (ok' := fun k_ => (P1_ k_ ∨ w.heap.size ≤ k_) ∧ k_ ≠ gb112) ho0 (fun k_ hk_ => ⟨Or.elim hk_ (fun hs_ => hs_.1) (fun hn_ => (.inr (Nat.le_trans (below_size (by repeat (first | (with_reducible first | exact HB.out | apply b1_ | apply b2_ | apply b3_ | refine b4_ ?_ GE112.out) | exact HB.out))) hn_))), Or.elim hk_ (fun hs_ => hs_.2) (fun hn_ => (Kd.freshB (g := gb112) (o := .cells #[.bool false, .slice none 0 0] 29 (0, 0)) (by (with_reducible repeat (first | refine k1_ ?_ _ | refine k2_ ?_ | refine k3_ ?_ _)); exact BK112.out) k_ hn_))⟩)) (below_size (by repeat (first | (with_reducible first | exact HB.out | apply b1_ | apply b2_ | apply b3_ | refine b4_ ?_ GE112.out) | exact HB.out)))); have n2_ := a0_ (blk_below (g := gb112) (o := .cells #[.bool false, .slice none 0 0] 29 (0, 0)) (by (with_reducible repeat (first | refine k1_ ?_ _ | refine k2_ ?_ | refine k3_ ?_ _)); exact BK112.out) hb); have n3_ := a0_ (below_step (by repeat (first | (with_reducible first | exact HB.out | apply b1_ | apply b2_ | apply b3_ | refine b4_ ?_ GE112.out) | exact HB.out)) hb); clear HO1; clear BK112; clear HB; have HO1 := n0_; have HO115 := n1_; have BK112 := n2_; have HB := n3_; clear n0_ n1_ n2_ n3_; (try clear hb); (try clear hb2); (try clear hk); (try clear hi); (try clear ho0); obtain ⟨Ao11, co11, eo11⟩ := Kd.V_slice HO115.out; subst eo11; have hcz12_0 : w10.cell? ⟨gb112, 0, none⟩ = some (.bool false) := (blk_cell BK112.out 0).trans rfl; have hcz12_1 : w10.cell? ⟨gb112, 1, none⟩ = some (.slice none 0 0) := (blk_cell BK112.out 1).trans rfl; have hfz12_0 := blk_frozen BK112.out 0; have hfz12_1 := blk_frozen BK112.out 1))
  refine bodyPost_ret (results_cell_row rfl _ _ gb112 29 #[.bool false, .slice Ao11 t113.length co11] (0, 0) _ rfl (by (with_reducible repeat (first | refine k1_ ?_ _ | refine k2_ ?_ | refine k3_ ?_ _)); refine blk_put (cs := #[.bool false, .slice none 0 0]) ?_ 1 _ rfl; (with_reducible repeat (first | refine k1_ ?_ _ | refine k2_ ?_ | refine k3_ ?_ _)); refine blk_put (cs := #[.bool false, .slice none 0 0]) ?_ 0 _ rfl; (with_reducible repeat (first | refine k1_ ?_ _ | refine k2_ ?_ | refine k3_ ?_ _)); exact BK112.out) Try.underlying29 rfl (by kernel_rfl)) rfl ?_
  exact ⟨_, by first | rfl | (simp [e1_, e2_] <;> rfl) | (simp [*, e1_, e2_] <;> rfl), by (with_reducible repeat (first | apply v1_ | apply v2_ | apply v3_)); exact v4_ (v5_ (p := ⟨gb112, 1, none⟩) (v5_ (p := ⟨gb112, 0, none⟩) (v4_ HO115.out (fun k_ hk => (⟨hk, hk.2⟩ : _ ∧ k_ ≠ gb112))) (fun _ hk => hk.2) (.bool false)) (fun _ hk => hk.2) (.slice Ao11 t113.length co11)) (fun _ hk => hk.1.1), by repeat (first | (with_reducible first | exact HB.out | apply b1_ | apply b2_ | apply b3_ | refine b4_ ?_ GE112.out) | exact HB.out)⟩

/-! ### spec_WideInt: function 35 -/
def spec_WideInt.f (k : Nat) (a0 : Int) : Option (Bool × List Int) := if a0 < 0 then ((spec_wide.f k true (([(IntKind.u64.wrap (-(IntKind.u64.wrap (a0)))) % 4294967296, ((IntKind.u64.wrap (-(IntKind.u64.wrap (a0)))) / 4294967296) % 4294967296] : List Int))).bind fun bt342 => (some (bt342.1, bt342.2))) else ((spec_wide.f k false (([(IntKind.u64.wrap (a0)) % 4294967296, ((IntKind.u64.wrap (a0)) / 4294967296) % 4294967296] : List Int))).bind fun bt349 => (some (bt349.1, bt349.2)))
set_option maxHeartbeats 8000000 in
set_option maxRecDepth 100000 in
theorem spec_WideInt.calls (k : Nat) (a0 : Int) (r1 : Bool) (r2 : List Int) (w : World) (h : spec_WideInt.f k a0 = some (r1, r2)) :
  Calls Try.prog 35 #[.int .i64 a0] w fun e w' => ∃ v1_ : Value, e = .returned (.agg #[.bool r1, v1_]) ∧ Kd.V (Kd.int .u32) 96 w' w.heap.size (fun k_ => (w.heap.size ≤ k_)) v1_ r2 ∧ Below w.heap.size w w' := by
 have hu29 := Try.underlying29
 have HB := a0_ (Below.refl w.heap.size w)
 have H : (if a0 < 0 then ((spec_wide.f k true (([(IntKind.u64.wrap (-(IntKind.u64.wrap (a0)))) % 4294967296, ((IntKind.u64.wrap (-(IntKind.u64.wrap (a0)))) / 4294967296) % 4294967296] : List Int))).bind fun bt342 => (some (bt342.1, bt342.2))) else ((spec_wide.f k false (([(IntKind.u64.wrap (a0)) % 4294967296, ((IntKind.u64.wrap (a0)) / 4294967296) % 4294967296] : List Int))).bind fun bt349 => (some (bt349.1, bt349.2)))) = some (r1, r2) := h
 clear h
 by_cases c2 : a0 < 0
 ·
  rw [if_pos c2] at H
  have c2b0 : decide (a0 < 0) = true := d2_ c2
  clear c2
  obtain ⟨y339, hy339⟩ : ∃ y_ : List Int, y_ = (([(IntKind.u64.wrap (-(IntKind.u64.wrap (a0)))) % 4294967296, ((IntKind.u64.wrap (-(IntKind.u64.wrap (a0)))) / 4294967296) % 4294967296] : List Int)) := ⟨_, rfl⟩
  replace H : ((spec_wide.f k true y339).bind fun bt342 => (some (bt342.1, bt342.2))) = some (r1, r2) := by first | (rw [hy339]; with_reducible exact H) | (have H2_ := (o2_ _ _).symm.trans H; rw [hy339]; with_reducible exact H2_) | (have H2_ := (o2_ _ _).symm.trans H; with_reducible exact H2_) | with_reducible exact H | (rw [hy339]; exact H) | exact H
  have Ny339 := a0_ hy339
  clear hy339
  replace H := Option.bind_eq_some_iff.mp H
  obtain ⟨⟨t342, t343⟩, A30, H⟩ := H
  replace H : (some (t342, t343)) = some (r1, r2) := H
  have A3 := a0_ A30
  clear A30
  simp only [Option.some.injEq, Prod.mk.injEq] at H
  obtain ⟨rfl, rfl⟩ := H
  go_enter Try.func35, Try.ntmps35
  go_wp2_with (first | ((with_reducible refine gate_dst (N := 2) rfl ?_); refine box_event ?hg (N := 2) ?hd (cs := #[.bool false, .slice none 0 0]) (t := 29) ?hr ?_; (case hd => rfl); (case hg => rfl); (case hr => first | (go_simp; done) | (go_simp; rfl)); intro gb338 hg w4 hbox hb; have n0_ := a0_ (below_step (by repeat (first | (with_reducible first | exact HB.out | apply b1_ | apply b2_ | apply b3_) | exact HB.out)) hb); have n1_ := a0_ (hbox); have n2_ := a0_ ((by rw [hg]; exact (below_size (by repeat (first | (with_reducible first | exact HB.out | apply b1_ | apply b2_ | apply b3_) | exact HB.out))) : w.heap.size ≤ gb338)); have n3_ := a0_ ((by rw [hg]; exact (below_size (by repeat (first | (with_reducible first | exact HB.out | apply b1_ | apply b2_ | apply b3_) | exact HB.out))) : w.heap.size ≤ gb338)); clear HB; have HB := n0_; have BK338 := n1_; have GW338 := n2_; have GE338 := n3_; clear n0_ n1_ n2_ n3_; clear hb hbox hg) | ((with_reducible refine gate_dst (N := 17) rfl ?_); refine Kd.R_lit (Kd.int .u32) _ 96 ?hg (N := 17) ?hd (xs := ([(IntKind.u64.wrap (-(IntKind.u64.wrap (a0)))) % 4294967296, ((IntKind.u64.wrap (-(IntKind.u64.wrap (a0)))) / 4294967296) % 4294967296] : List Int)) (inner := [.int .u32 ((IntKind.u64.wrap (-(IntKind.u64.wrap (a0)))) % 4294967296), .int .u32 (((IntKind.u64.wrap (-(IntKind.u64.wrap (a0)))) / 4294967296) % 4294967296)]) (ok := fun _ => True) (okp := fun _ => True) ?hr ?hp (fun _ hk => hk) trivial (Below.refl _ _) (Nat.le_refl _) (by simp) ?_; (case hd => rfl); (case hg => rfl); (case hr => first | (go_simp; done) | (go_simp; rfl)); (case hp => exact (Reps.one (show Kd.M (Kd.int .u32) _ _ _ ((IntKind.u64.wrap (-(IntKind.u64.wrap (a0)))) % 4294967296) [.int .u32 ((IntKind.u64.wrap (-(IntKind.u64.wrap (a0)))) % 4294967296)] from rfl) (Reps.one (show Kd.M (Kd.int .u32) _ _ _ (((IntKind.u64.wrap (-(IntKind.u64.wrap (a0)))) / 4294967296) % 4294967296) [.int .u32 (((IntKind.u64.wrap (-(IntKind.u64.wrap (a0)))) / 4294967296) % 4294967296)] from rfl) (Reps.none _ _)))); intro v340 w5 ho6 hb hg_ hnew_; clear hg_ hnew_; (first | rw [← Ny339.out] at ho6 | (simp only [Int.reduceToNat] at ho6; rw [← Ny339.out] at ho6)); have n0_ := a0_ (Kd.R_lower (Kd.R_newM (M := fun k_ => (w.heap.size ≤ k_)) ho6 (below_size (by repeat (first | (with_reducible first | exact HB.out | apply b1_ | apply b2_ | apply b3_ | refine b4_ ?_ GE338.out) | exact HB.out))) (fun k_ h_ => h_)) (below_size (by repeat (first | (with_reducible first | exact HB.out | apply b1_ | apply b2_ | apply b3_ | refine b4_ ?_ GE338.out) | exact HB.out)))); have n1_ := a0_ (blk_below (g := gb338) (o := .cells #[.bool false, .slice none 0 0] 29 (0, 0)) (by (with_reducible repeat (first | refine k1_ ?_ _ | refine k2_ ?_ | refine k3_ ?_ _)); exact BK338.out) hb); have n2_ := a0_ (below_step (by repeat (first | (with_reducible first | exact HB.out | apply b1_ | apply b2_ | apply b3_ | refine b4_ ?_ GE338.out) | exact HB.out)) hb); clear BK338; clear HB; have HO341 := n0_; have BK338 := n1_; have HB := n2_; clear n0_ n1_ n2_; clear hb ho6; obtain ⟨Ao7, co7, eo7⟩ := Kd.R_slice HO341.out; subst eo7) | ((with_reducible refine gate_callee (f := 30) rfl ?_); refine goesL_ (some 18) rfl rfl Try.func30 (by kernel_rfl) rfl #[.bool true, .slice Ao7 y339.length co7] rfl (by (try simp only [List.map_toArray, List.map_cons, List.map_nil]); first | done | rfl | (simp only [List.length_drop, List.length_take]; rfl)) ?_; (with_reducible refine (spec_wide.calls k true (fun k_ => some k_ = (.slice Ao7 y339.length co7 : Value).ownBlock) _ _ y339 t342 t343 _ ?side1 A3.out).mono ?_); (case side1 => exact Kd.R_V (Kd.R_tight rfl (Kd.R_types (HO341.out) BK338.out (by decide)))); rintro e w8 ⟨v344, rfl, ho0, hb⟩; refine ⟨_, rfl, ?_⟩; have n0_ := a0_ (Kd.R_below (by (with_reducible repeat (first | apply r1_ | apply r2_ | apply r3_)); exact HO341.out) hb); have n1_ := a0_ (Kd.V_lower (v4_ (ok' := fun k_ => (w.heap.size ≤ k_) ∧ k_ ≠ gb338) ho0 (fun k_ hk_ => ⟨Or.elim hk_ (fun hs_ => ((Kd.R_types (HO341.out) BK338.out (by decide)).1 k_ hs_.symm).1.1) (fun hn_ => (Nat.le_trans (below_size (by repeat (first | (with_reducible first | exact HB.out | apply b1_ | apply b2_ | apply b3_ | refine b4_ ?_ GE338.out) | exact HB.out))) hn_)), Or.elim hk_ (fun hs_ => ((Kd.R_types (HO341.out) BK338.out (by decide)).1 k_ hs_.symm).2) (fun hn_ => (Kd.freshB (g := gb338) (o := .cells #[.bool false, .slice none 0 0] 29 (0, 0)) (by (with_reducible repeat (first | refine k1_ ?_ _ | refine k2_ ?_ | refine k3_ ?_ _)); exact BK338.out) k_ hn_))⟩)) (below_size (by repeat (first | (with_reducible first | exact HB.out | apply b1_ | apply b2_ | apply b3_ | refine b4_ ?_ GE338.out) | exact HB.out)))); have n2_ := a0_ (blk_below (g := gb338) (o := .cells #[.bool false, .slice none 0 0] 29 (0, 0)) (by (with_reducible repeat (first | refine k1_ ?_ _ | refine k2_ ?_ | refine k3_ ?_ _)); exact BK338.out) hb); have n3_ := a0_ (below_step (by repeat (first | (with_reducible first | exact HB.out | apply b1_ | apply b2_ | apply b3_ | refine b4_ ?_ GE338.out) | exact HB.out)) hb); clear HO341; clear BK338; clear HB; have HO341 := n0_; have HO345 := n1_; have BK338 := n2_; have HB := n3_; clear n0_ n1_ n2_ n3_; (try clear hb); (try clear hb2); (try clear hk); (try clear hi); (try clear ho0); have hcz9_0 : w8.cell? ⟨gb338, 0, none⟩ = some (.bool false) := (blk_cell BK338.out 0).trans rfl; have hcz9_1 : w8.cell? ⟨gb338, 1, none⟩ = some (.slice none 0 0) := (blk_cell BK338.out 1).trans rfl; have hfz9_0 := blk_frozen BK338.out 0; have hfz9_1 := blk_frozen BK338.out 1; obtain ⟨Ao10, co10, eo10⟩ := Kd.V_slice HO345.out; subst eo10))
  refine bodyPost_ret (results_cell_row rfl _ _ gb338 29 #[.bool t342, .slice Ao10 t343.length co10] (0, 0) _ rfl (by (with_reducible repeat (first | refine k1_ ?_ _ | refine k2_ ?_ | refine k3_ ?_ _)); refine blk_put (cs := #[.bool t342, .slice none 0 0]) ?_ 1 _ rfl; (with_reducible repeat (first | refine k1_ ?_ _ | refine k2_ ?_ | refine k3_ ?_ _)); refine blk_put (cs := #[.bool false, .slice none 0 0]) ?_ 0 _ rfl; (with_reducible repeat (first | refine k1_ ?_ _ | refine k2_ ?_ | refine k3_ ?_ _)); exact BK338.out) Try.underlying29 rfl (by kernel_rfl)) rfl ?_
  exact ⟨_, by first | rfl | (simp [e1_, e2_] <;> rfl) | (simp [*, e1_, e2_] <;> rfl), by (with_reducible repeat (first | apply v1_ | apply v2_ | apply v3_)); exact v4_ (v5_ (p := ⟨gb338, 1, none⟩) (v5_ (p := ⟨gb338, 0, none⟩) (v4_ HO345.out (fun k_ hk => (⟨hk, hk.2⟩ : _ ∧ k_ ≠ gb338))) (fun _ hk => hk.2) (.bool t342)) (fun _ hk => hk.2) (.slice Ao10 t343.length co10)) (fun _ hk => hk.1.1), by repeat (first | (with_reducible first | exact HB.out | apply b1_ | apply b2_ | apply b3_ | refine b4_ ?_ GE338.out) | exact HB.out)⟩
 ·
  rw [if_neg c2] at H
  have c2b0 : decide (a0 < 0) = false := d3_ c2
  clear c2
  obtain ⟨y346, hy346⟩ : ∃ y_ : List Int, y_ = (([(IntKind.u64.wrap (a0)) % 4294967296, ((IntKind.u64.wrap (a0)) / 4294967296) % 4294967296] : List Int)) := ⟨_, rfl⟩
  replace H : ((spec_wide.f k false y346).bind fun bt349 => (some (bt349.1, bt349.2))) = some (r1, r2) := by first | (rw [hy346]; with_reducible exact H) | (have H2_ := (o2_ _ _).symm.trans H; rw [hy346]; with_reducible exact H2_) | (have H2_ := (o2_ _ _).symm.trans H; with_reducible exact H2_) | with_reducible exact H | (rw [hy346]; exact H) | exact H
  have Ny346 := a0_ hy346
  clear hy346
  replace H := Option.bind_eq_some_iff.mp H
  obtain ⟨⟨t349, t350⟩, A110, H⟩ := H
  replace H : (some (t349, t350)) = some (r1, r2) := H
  have A11 := a0_ A110
  clear A110
  simp only [Option.some.injEq, Prod.mk.injEq] at H
  obtain ⟨rfl, rfl⟩ := H
  go_enter Try.func35, Try.ntmps35
  go_wp2_with (first | ((with_reducible refine gate_dst (N := 2) rfl ?_); refine box_event ?hg (N := 2) ?hd (cs := #[.bool false, .slice none 0 0]) (t := 29) ?hr ?_; (case hd => rfl); (case hg => rfl); (case hr => first | (go_simp; done) | (go_simp; rfl)); intro gb338 hg w12 hbox hb; have n0_ := a0_ (below_step (by repeat (first | (with_reducible first | exact HB.out | apply b1_ | apply b2_ | apply b3_) | exact HB.out)) hb); have n1_ := a0_ (hbox); have n2_ := a0_ ((by rw [hg]; exact (below_size (by repeat (first | (with_reducible first | exact HB.out | apply b1_ | apply b2_ | apply b3_) | exact HB.out))) : w.heap.size ≤ gb338)); have n3_ := a0_ ((by rw [hg]; exact (below_size (by repeat (first | (with_reducible first | exact HB.out | apply b1_ | apply b2_ | apply b3_) | exact HB.out))) : w.heap.size ≤ gb338)); clear HB; have HB := n0_; have BK338 := n1_; have GW338 := n2_; have GE338 := n3_; clear n0_ n1_ n2_ n3_; clear hb hbox hg) | ((with_reducible refine gate_dst (N := 17) rfl ?_); refine Kd.R_lit (Kd.int .u32) _ 96 ?hg (N := 17) ?hd (xs := ([(IntKind.u64.wrap (a0)) % 4294967296, ((IntKind.u64.wrap (a0)) / 4294967296) % 4294967296] : List Int)) (inner := [.int .u32 ((IntKind.u64.wrap (a0)) % 4294967296), .int .u32 (((IntKind.u64.wrap (a0)) / 4294967296) % 4294967296)]) (ok := fun _ => True) (okp := fun _ => True) ?hr ?hp (fun _ hk => hk) trivial (Below.refl _ _) (Nat.le_refl _) (by simp) ?_; (case hd => rfl); (case hg => rfl); (case hr => first | (go_simp; done) | (go_simp; rfl)); (case hp => exact (Reps.one (show Kd.M (Kd.int .u32) _ _ _ ((IntKind.u64.wrap (a0)) % 4294967296) [.int .u32 ((IntKind.u64.wrap (a0)) % 4294967296)] from rfl) (Reps.one (show Kd.M (Kd.int .u32) _ _ _ (((IntKind.u64.wrap (a0)) / 4294967296) % 4294967296) [.int .u32 (((IntKind.u64.wrap (a0)) / 4294967296) % 4294967296)] from rfl) (Reps.none _ _)))); intro v347 w13 ho14 hb hg_ hnew_; clear hg_ hnew_; (first | rw [← Ny346.out] at ho14 | (simp only [Int.reduceToNat] at ho14; rw [← Ny346.out] at ho14)); have n0_ := a0_ (Kd.R_lower (Kd.R_newM (M := fun k_ => (w.heap.size ≤ k_)) ho14 (below_size (by repeat (first | (with_reducible first | exact HB.out | apply b1_ | apply b2_ | apply b3_ | refine b4_ ?_ GE338.out) | exact HB.out))) (fun k_ h_ => h_)) (below_size (by repeat (first | (with_reducible first | exact HB.out | apply b1_ | apply b2_ | apply b3_ | refine b4_ ?_ GE338.out) | exact HB.out)))); have n1_ := a0_ (blk_below (g := gb338) (o := .cells #[.bool false, .slice none 0 0] 29 (0, 0)) (by (with_reducible repeat (first | refine k1_ ?_ _ | refine k2_ ?_ | refine k3_ ?_ _)); exact BK338.out) hb); have n2_ := a0_ (below_step (by repeat (first | (with_reducible first | exact HB.out | apply b1_ | apply b2_ | apply b3_ | refine b4_ ?_ GE338.out) | exact HB.out)) hb); clear BK338; clear HB; have HO348 := n0_; have BK338 := n1_; have HB := n2_; clear n0_ n1_ n2_; clear hb ho14; obtain ⟨Ao15, co15, eo15⟩ := Kd.R_slice HO348.out; subst eo15) | ((with_reducible refine gate_callee (f := 30) rfl ?_); refine goesL_ (some 18) rfl rfl Try.func30 (by kernel_rfl) rfl #[.bool false, .slice Ao15 y346.length co15] rfl (by (try simp only [List.map_toArray, List.map_cons, List.map_nil]); first | done | rfl | (simp only [List.length_drop, List.length_take]; rfl)) ?_; (with_reducible refine (spec_wide.calls k false (fun k_ => some k_ = (.slice Ao15 y346.length co15 : Value).ownBlock) _ _ y346 t349 t350 _ ?side1 A11.out).mono ?_); (case side1 => exact Kd.R_V (Kd.R_tight rfl (Kd.R_types (HO348.out) BK338.out (by decide)))); rintro e w16 ⟨v351, rfl, ho0, hb⟩; refine ⟨_, rfl, ?_⟩; have n0_ := a0_ (Kd.R_below (by (with_reducible repeat (first | apply r1_ | apply r2_ | apply r3_)); exact HO348.out) hb); have n1_ := a0_ (Kd.V_lower (v4_ (ok' := fun k_ => (w.heap.size ≤ k_) ∧ k_ ≠ gb338) ho0 (fun k_ hk_ => ⟨Or.elim hk_ (fun hs_ => ((Kd.R_types (HO348.out) BK338.out (by decide)).1 k_ hs_.symm).1.1) (fun hn_ => (Nat.le_trans (below_size (by repeat (first | (with_reducible first | exact HB.out | apply b1_ | apply b2_ | apply b3_ | refine b4_ ?_ GE338.out) | exact HB.out))) hn_)), Or.elim hk_ (fun hs_ => ((Kd.R_types (HO348.out) BK338.out (by decide)).1 k_ hs_.symm).2) (fun hn_ => (Kd.freshB (g := gb338) (o := .cells #[.bool false, .slice none 0 0] 29 (0, 0)) (by (with_reducible repeat (first | refine k1_ ?_ _ | refine k2_ ?_ | refine k3_ ?_ _)); exact BK338.out) k_ hn_))⟩)) (below_size (by repeat (first | (with_reducible first | exact HB.out | apply b1_ | apply b2_ | apply b3_ | refine b4_ ?_ GE338.out) | exact HB.out)))); have n2_ := a0_ (blk_below (g := gb338) (o := .cells #[.bool false, .slice none 0 0] 29 (0, 0)) (by (with_reducible repeat (first | refine k1_ ?_ _ | refine k2_ ?_ | refine k3_ ?_ _)); exact BK338.out) hb); have n3_ := a0_ (below_step (by repeat (first | (with_reducible first | exact HB.out | apply b1_ | apply b2_ | apply b3_ | refine b4_ ?_ GE338.out) | exact HB.out)) hb); clear HO348; clear BK338; clear HB; have HO348 := n0_; have HO352 := n1_; have BK338 := n2_; have HB := n3_; clear n0_ n1_ n2_ n3_; (try clear hb); (try clear hb2); (try clear hk); (try clear hi); (try clear ho0); have hcz17_0 : w16.cell? ⟨gb338, 0, none⟩ = some (.bool false) := (blk_cell BK338.out 0).trans rfl; have hcz17_1 : w16.cell? ⟨gb338, 1, none⟩ = some (.slice none 0 0) := (blk_cell BK338.out 1).trans rfl; have hfz17_0 := blk_frozen BK338.out 0; have hfz17_1 := blk_frozen BK338.out 1; obtain ⟨Ao18, co18, eo18⟩ := Kd.V_slice HO352.out; subst eo18))
  refine bodyPost_ret (results_cell_row rfl _ _ gb338 29 #[.bool t349, .slice Ao18 t350.length co18] (0, 0) _ rfl (by (with_reducible repeat (first | refine k1_ ?_ _ | refine k2_ ?_ | refine k3_ ?_ _)); refine blk_put (cs := #[.bool t349, .slice none 0 0]) ?_ 1 _ rfl; (with_reducible repeat (first | refine k1_ ?_ _ | refine k2_ ?_ | refine k3_ ?_ _)); refine blk_put (cs := #[.bool false, .slice none 0 0]) ?_ 0 _ rfl; (with_reducible repeat (first | refine k1_ ?_ _ | refine k2_ ?_ | refine k3_ ?_ _)); exact BK338.out) Try.underlying29 rfl (by kernel_rfl)) rfl ?_
  exact ⟨_, by first | rfl | (simp [e1_, e2_] <;> rfl) | (simp [*, e1_, e2_] <;> rfl), by (with_reducible repeat (first | apply v1_ | apply v2_ | apply v3_)); exact v4_ (v5_ (p := ⟨gb338, 1, none⟩) (v5_ (p := ⟨gb338, 0, none⟩) (v4_ HO352.out (fun k_ hk => (⟨hk, hk.2⟩ : _ ∧ k_ ≠ gb338))) (fun _ hk => hk.2) (.bool t349)) (fun _ hk => hk.2) (.slice Ao18 t350.length co18)) (fun _ hk => hk.1.1), by repeat (first | (with_reducible first | exact HB.out | apply b1_ | apply b2_ | apply b3_ | refine b4_ ?_ GE338.out) | exact HB.out)⟩

/-! ### spec_magMul: function 76 -/
mutual
def spec_magMul.l0 : Nat → List Int → List Int → List Int → Int → Int → Option (List Int)
 | 0, _, _, _, _, _ => none
 | k + 1, x0, x1, x5, x16, x17 => if x17 < x16 then (spec_magMul.l1 k x0 x1 x5 x17 0 x16 x17 (x1.length : Int) 0) else ((spec_trim.f k x5).bind fun t356 => (some t356))
def spec_magMul.l1 : Nat → List Int → List Int → List Int → Int → Int → Int → Int → Int → Int → Option (List Int)
 | 0, _, _, _, _, _, _, _, _, _ => none
 | k + 1, x0, x1, x5, x6, x7, x16, x17, x21, x22 => if x22 < x21 then (if 0 ≤ x6 then (if x6 < (x0.length : Int) then (if 0 ≤ x22 then (if x22 < (x1.length : Int) then (if 0 ≤ (wrap64 (x6 + x22)) then (if (wrap64 (x6 + x22)) < (x5.length : Int) then (spec_magMul.l1 k x0 x1 (x5.set ((wrap64 (x6 + x22)) : Int).toNat ((IntKind.u64.wrap (x7 + (IntKind.u64.wrap ((IntKind.u64.wrap ((IntKind.u64.wrap (rd x0 x6)) * (IntKind.u64.wrap (rd x1 x22)))) + (IntKind.u64.wrap (rd x5 (wrap64 (x6 + x22)))))))) % 4294967296)) x6 ((IntKind.u64.wrap (x7 + (IntKind.u64.wrap ((IntKind.u64.wrap ((IntKind.u64.wrap (rd x0 x6)) * (IntKind.u64.wrap (rd x1 x22)))) + (IntKind.u64.wrap (rd x5 (wrap64 (x6 + x22)))))))) / 4294967296) x16 x17 x21 (wrap64 (x22 + 1))) else (none)) else (none)) else (none)) else (none)) else (none)) else (none)) else (if 0 ≤ (wrap64 (x6 + (x1.length : Int))) then (if (wrap64 (x6 + (x1.length : Int))) < (x5.length : Int) then (spec_magMul.l0 k x0 x1 (x5.set ((wrap64 (x6 + (x1.length : Int))) : Int).toNat ((x7) % 4294967296)) x16 (wrap64 (x17 + 1))) else (none)) else (none))
end
def spec_magMul.f (k : Nat) (l0 : List Int) (l1 : List Int) : Option (List Int) := if 0 ≤ (wrap64 ((l0.length : Int) + (l1.length : Int))) then (if (wrap64 ((l0.length : Int) + (l1.length : Int)) : Int).toNat ≤ 70368744177664 then (spec_magMul.l0 k l0 l1 (List.replicate (wrap64 ((l0.length : Int) + (l1.length : Int)) : Int).toNat 0) (l0.length : Int) 0) else (none)) else (none)
set_option maxHeartbeats 8000000 in
set_option maxRecDepth 100000 in
theorem spec_magMul.calls (k : Nat) (A0 : Option Addr) (c0 : Nat) (l0 : List Int) (A1 : Option Addr) (c1 : Nat) (l1 : List Int) (r : List Int) (w : World) (hr0 : Kd.C (Kd.int .u32) w A0 l0.length l0) (hc0 : l0.length ≤ c0) (hr1 : Kd.C (Kd.int .u32) w A1 l1.length l1) (hc1 : l1.length ≤ c1) (h : spec_magMul.f k l0 l1 = some r) :
  Calls Try.prog 76 #[.slice A0 l0.length c0, .slice A1 l1.length c1] w fun e w' => ∃ v0_ : Value, e = .returned (v0_) ∧ Kd.V (Kd.int .u32) 96 w' w.heap.size (fun k_ => (w.heap.size ≤ k_)) v0_ r ∧ Below w.heap.size w w' := by
 have HR0 := a0_ hr0
 have HC0 := a0_ hc0
 clear hr0 hc0
 have HR1 := a0_ hr1
 have HC1 := a0_ hc1
 clear hr1 hc1
 have HB := a0_ (Below.refl w.heap.size w)
 have H : (if 0 ≤ (wrap64 ((l0.length : Int) + (l1.length : Int))) then (if (wrap64 ((l0.length : Int) + (l1.length : Int)) : Int).toNat ≤ 70368744177664 then (spec_magMul.l0 k l0 l1 (List.replicate (wrap64 ((l0.length : Int) + (l1.length : Int)) : Int).toNat 0) (l0.length : Int) 0) else (none)) else (none)) = some r := h
 clear h
 obtain ⟨ji3, hji3⟩ : ∃ j_ : Int, (wrap64 ((l0.length : Int) + (l1.length : Int))) = j_ := ⟨_, rfl⟩
 replace H : (if 0 ≤ (ji3) then (if (ji3 : Int).toNat ≤ 70368744177664 then (spec_magMul.l0 k l0 l1 (List.replicate (ji3 : Int).toNat 0) (l0.length : Int) 0) else (none)) else (none)) = some r := by first | (rw [hji3] at H; exact H) | (simp only [hji3] at H ⊢; exact H)
 have hji3w : (IntKind.i64.wrap ((l0.length : Int) + (l1.length : Int))) = ji3 := (i64_w _).trans hji3
 by_cases c4 : 0 ≤ (ji3)
 ·
  rw [if_pos c4] at H
  have c4b0 := eq_true c4
  have c4b1 : decide (0 ≤ (ji3)) = true := d2_ c4
  clear c4
  by_cases c5 : (ji3 : Int).toNat ≤ 70368744177664
  ·
   rw [if_pos c5] at H
   have c5b0 := eq_true c5
   have c5b1 : decide ((ji3 : Int).toNat ≤ 70368744177664) = true := d2_ c5
   clear c5
   obtain ⟨y353, hy353⟩ : ∃ y_ : List Int, y_ = (List.replicate (ji3 : Int).toNat 0) := ⟨_, rfl⟩
   replace H : (spec_magMul.l0 k l0 l1 y353 (l0.length : Int) 0) = some r := by first | (rw [hy353]; with_reducible exact H) | (have H2_ := (o2_ _ _).symm.trans H; rw [hy353]; with_reducible exact H2_) | (have H2_ := (o2_ _ _).symm.trans H; with_reducible exact H2_) | with_reducible exact H | (rw [hy353]; exact H) | exact H
   have Ny353 := a0_ hy353
   clear hy353
   have H' := a0_ H
   clear H
   go_enter Try.func76, Try.ntmps76
   go_wp2_with (first | ((with_reducible refine gate_dst (N := 14) rfl ?_); refine Kd.R_make (Kd.int .u32) _ 96 rfl (N := 14) rfl 27 _ _ rfl ji3 rfl rfl Try.underlying27 (.int .u32 0) 4 info96 rfl (by decide) (by omega) 0 (ok := fun _ => True) (okp := fun _ => True) rfl (fun _ hk => hk) trivial (d1_ (by first | (with_reducible assumption) | assumption)) (Nat.le_trans (Nat.mul_le_mul_right _ (d1_ (by first | (with_reducible assumption) | assumption) : ji3.toNat ≤ 70368744177664)) (by omega)) (Below.refl _ _) (Nat.le_refl _) ?_; intro v354 w6 ho7 hb hg_ hnew_; clear hg_ hnew_; (first | rw [← Ny353.out] at ho7 | (simp only [Int.reduceToNat] at ho7; rw [← Ny353.out] at ho7)); have n0_ := a0_ (Kd.R_lower (Kd.R_newM (M := fun k_ => (w.heap.size ≤ k_)) ho7 (below_size (by repeat (first | (with_reducible first | exact HB.out | apply b1_ | apply b2_ | apply b3_) | exact HB.out))) (fun k_ h_ => h_)) (below_size (by repeat (first | (with_reducible first | exact HB.out | apply b1_ | apply b2_ | apply b3_) | exact HB.out)))); have n1_ := a0_ (below_step (by repeat (first | (with_reducible first | exact HB.out | apply b1_ | apply b2_ | apply b3_) | exact HB.out)) hb); clear HB; have HO355 := n0_; have HB := n1_; clear n0_ n1_; clear hb ho7))
   repeat (go_quiet (first | ((with_reducible refine gate_dst (N := 14) rfl ?_); refine Kd.R_make (Kd.int .u32) _ 96 rfl (N := 14) rfl 27 _ _ rfl ji3 rfl rfl Try.underlying27 (.int .u32 0) 4 info96 rfl (by decide) (by omega) 0 (ok := fun _ => True) (okp := fun _ => True) rfl (fun _ hk => hk) trivial (d1_ (by first | (with_reducible assumption) | assumption)) (Nat.le_trans (Nat.mul_le_mul_right _ (d1_ (by first | (with_reducible assumption) | assumption) : ji3.toNat ≤ 70368744177664)) (by omega)) (Below.refl _ _) (Nat.le_refl _) ?_; intro v354 w6 ho7 hb hg_ hnew_; clear hg_ hnew_; (first | rw [← Ny353.out] at ho7 | (simp only [Int.reduceToNat] at ho7; rw [← Ny353.out] at ho7)); have n0_ := a0_ (Kd.R_lower (Kd.R_newM (M := fun k_ => (w.heap.size ≤ k_)) ho7 (below_size (by repeat (first | (with_reducible first | exact HB.out | apply b1_ | apply b2_ | apply b3_) | exact HB.out))) (fun k_ h_ => h_)) (below_size (by repeat (first | (with_reducible first | exact HB.out | apply b1_ | apply b2_ | apply b3_) | exact HB.out)))); have n1_ := a0_ (below_step (by repeat (first | (with_reducible first | exact HB.out | apply b1_ | apply b2_ | apply b3_) | exact HB.out)) hb); clear HB; have HO355 := n0_; have HB := n1_; clear n0_ n1_; clear hb ho7)); try go_wp2_with (first | ((with_reducible refine gate_dst (N := 14) rfl ?_); refine Kd.R_make (Kd.int .u32) _ 96 rfl (N := 14) rfl 27 _ _ rfl ji3 rfl rfl Try.underlying27 (.int .u32 0) 4 info96 rfl (by decide) (by omega) 0 (ok := fun _ => True) (okp := fun _ => True) rfl (fun _ hk => hk) trivial (d1_ (by first | (with_reducible assumption) | assumption)) (Nat.le_trans (Nat.mul_le_mul_right _ (d1_ (by first | (with_reducible assumption) | assumption) : ji3.toNat ≤ 70368744177664)) (by omega)) (Below.refl _ _) (Nat.le_refl _) ?_; intro v354 w6 ho7 hb hg_ hnew_; clear hg_ hnew_; (first | rw [← Ny353.out] at ho7 | (simp only [Int.reduceToNat] at ho7; rw [← Ny353.out] at ho7)); have n0_ := a0_ (Kd.R_lower (Kd.R_newM (M := fun k_ => (w.heap.size ≤ k_)) ho7 (below_size (by repeat (first | (with_reducible first | exact HB.out | apply b1_ | apply b2_ | apply b3_) | exact HB.out))) (fun k_ h_ => h_)) (below_size (by repeat (first | (with_reducible first | exact HB.out | apply b1_ | apply b2_ | apply b3_) | exact HB.out)))); have n1_ := a0_ (below_step (by repeat (first | (with_reducible first | exact HB.out | apply b1_ | apply b2_ | apply b3_) | exact HB.out)) hb); clear HB; have HO355 := n0_; have HB := n1_; clear n0_ n1_; clear hb ho7)))
   go_loopg [17] k (fun kq v17 w' => ∃ (x5_1 : List Int) (x17_1 : Int), v17 = .int .i64 x17_1 ∧ Aside0 (spec_magMul.l0 kq l0 l1 x5_1 (l0.length : Int) x17_1 = some r) ∧ Aside0 (kq ≤ k) ∧ Aside0 (Kd.R (Kd.int .u32) 96 w' w.heap.size (fun k_ => (w.heap.size ≤ k_)) v354 x5_1) ∧ Aside0 (Below w.heap.size w w'))
   case atStart => exact ⟨(y353), (0), (by first | rfl | (simp; done) | (simp [*]; done)), H', ⟨Nat.le_refl _⟩, ⟨by (with_reducible repeat (first | apply r1_ | apply r2_ | apply r3_)); exact Kd.R_mono HO355.out (fun _ hk => hk.1)⟩, ⟨by repeat (first | (with_reducible first | exact HB.out | apply b1_ | apply b2_ | apply b3_) | exact HB.out)⟩⟩
   case round =>
    clear H'
    try clear c1
    try clear p2
    try clear c4
    try clear c4b0
    try clear c4b1
    try clear c5
    try clear c5b0
    try clear c5b1
    try clear p6
    try clear c7
    obtain ⟨x5_1, x17_1, rfl, HA, HK1, HO_5, HB⟩ := hrel
    cases gk with
    | zero => exact absurd HA.out (by simp [spec_magMul.l0])
    | succ k1 =>
     have H := HA.out
     clear HA
     simp only [spec_magMul.l0] at H
     by_cases c8 : x17_1 < (l0.length : Int)
     ·
      rw [if_pos c8] at H
      have c8b0 : decide (x17_1 < (l0.length : Int)) = true := d2_ c8
      clear c8
      have H' := a0_ H
      clear H
      go_wp2
      repeat (go_quiet (fail); try go_wp2)
      go_loopg [7, 22] k1 (fun kq v7 v22 w' => ∃ (x5_2 : List Int) (x7_2 : Int) (x22_2 : Int), v7 = .int .u64 x7_2 ∧ v22 = .int .i64 x22_2 ∧ Aside0 (spec_magMul.l1 kq l0 l1 x5_2 x17_1 x7_2 (l0.length : Int) x17_1 (l1.length : Int) x22_2 = some r) ∧ Aside0 (kq ≤ k1) ∧ Aside0 (Kd.R (Kd.int .u32) 96 w' w.heap.size (fun k_ => (w.heap.size ≤ k_)) v354 x5_2) ∧ Aside0 (Below w.heap.size w w'))
      case atStart => exact ⟨(x5_1), (0), (0), (by first | rfl | (simp; done) | (simp [*]; done)), (by first | rfl | (simp; done) | (simp [*]; done)), H', ⟨Nat.le_refl _⟩, ⟨by (with_reducible repeat (first | apply r1_ | apply r2_ | apply r3_)); exact HO_5.out⟩, ⟨by repeat (first | (with_reducible first | exact HB.out | apply b1_ | apply b2_ | apply b3_) | exact HB.out)⟩⟩
      case round =>
       clear H'
       try clear c1
       try clear p2
       try clear c4
       try clear c4b0
       try clear c4b1
       try clear c5
       try clear c5b0
       try clear c5b1
       try clear p6
       try clear c7
       try clear c8
       try clear c8b0
       try clear p2
       try clear p6
       obtain ⟨x5_2, x7_2, x22_2, rfl, rfl, HA, HK2, HO_5, HB⟩ := hrel
       cases gk with
       | zero => exact absurd HA.out (by simp [spec_magMul.l1])
       | succ k2 =>
        have H := HA.out
        clear HA
        simp only [spec_magMul.l1] at H
        by_cases c9 : x22_2 < (l1.length : Int)
        ·
         rw [if_pos c9] at H
         have c9b0 : decide (x22_2 < (l1.length : Int)) = true := d2_ c9
         clear c9
         by_cases c10 : 0 ≤ x17_1
         ·
          rw [if_pos c10] at H
          have c10b0 : decide (0 ≤ x17_1) = true := d2_ c10
          clear c10
          by_cases c11 : x17_1 < (l0.length : Int)
          ·
           rw [if_pos c11] at H
           have c11b0 : decide (x17_1 < (l0.length : Int)) = true := d2_ c11
           clear c11
           by_cases c12 : 0 ≤ x22_2
           ·
            rw [if_pos c12] at H
            have c12b0 : decide (0 ≤ x22_2) = true := d2_ c12
            clear c12
            by_cases c13 : x22_2 < (l1.length : Int)
            ·
             rw [if_pos c13] at H
             have c13b0 : decide (x22_2 < (l1.length : Int)) = true := d2_ c13
             clear c13
             obtain ⟨ji14, hji14⟩ : ∃ j_ : Int, (wrap64 (x17_1 + x22_2)) = j_ := ⟨_, rfl⟩
             replace H : (if 0 ≤ (ji14) then (if (ji14) < (x5_2.length : Int) then (spec_magMul.l1 k2 l0 l1 (x5_2.set ((ji14) : Int).toNat ((IntKind.u64.wrap (x7_2 + (IntKind.u64.wrap ((IntKind.u64.wrap ((IntKind.u64.wrap (rd l0 x17_1)) * (IntKind.u64.wrap (rd l1 x22_2)))) + (IntKind.u64.wrap (rd x5_2 (ji14))))))) % 4294967296)) x17_1 ((IntKind.u64.wrap (x7_2 + (IntKind.u64.wrap ((IntKind.u64.wrap ((IntKind.u64.wrap (rd l0 x17_1)) * (IntKind.u64.wrap (rd l1 x22_2)))) + (IntKind.u64.wrap (rd x5_2 (ji14))))))) / 4294967296) (l0.length : Int) x17_1 (l1.length : Int) (wrap64 (x22_2 + 1))) else (none)) else (none)) = some r := by first | (rw [hji14] at H; exact H) | (simp only [hji14] at H ⊢; exact H)
             have hji14w : (IntKind.i64.wrap (x17_1 + x22_2)) = ji14 := (i64_w _).trans hji14
             by_cases c15 : 0 ≤ (ji14)
             ·
              rw [if_pos c15] at H
              have c15b0 : decide (0 ≤ (ji14)) = true := d2_ c15
              clear c15
              by_cases c16 : (ji14) < (x5_2.length : Int)
              ·
               rw [if_pos c16] at H
               have c16b0 : decide ((ji14) < (x5_2.length : Int)) = true := d2_ c16
               clear c16
               obtain ⟨y362, hy362⟩ : ∃ y_ : List Int, y_ = (x5_2.set ((ji14) : Int).toNat ((IntKind.u64.wrap (x7_2 + (IntKind.u64.wrap ((IntKind.u64.wrap ((IntKind.u64.wrap (rd l0 x17_1)) * (IntKind.u64.wrap (rd l1 x22_2)))) + (IntKind.u64.wrap (rd x5_2 (ji14))))))) % 4294967296)) := ⟨_, rfl⟩
               replace H : (spec_magMul.l1 k2 l0 l1 y362 x17_1 ((IntKind.u64.wrap (x7_2 + (IntKind.u64.wrap ((IntKind.u64.wrap ((IntKind.u64.wrap (rd l0 x17_1)) * (IntKind.u64.wrap (rd l1 x22_2)))) + (IntKind.u64.wrap (rd x5_2 (ji14))))))) / 4294967296) (l0.length : Int) x17_1 (l1.length : Int) (wrap64 (x22_2 + 1))) = some r := by first | (rw [hy362]; with_reducible exact H) | (have H2_ := (o2_ _ _).symm.trans H; rw [hy362]; with_reducible exact H2_) | (have H2_ := (o2_ _ _).symm.trans H; with_reducible exact H2_) | with_reducible exact H | (rw [hy362]; exact H) | exact H
               have Ny362 := a0_ hy362
               clear hy362
               have H' := a0_ H
               clear H
               have p359 : 0 ≤ (x17_1 : Int) := d1_ (by first | (with_reducible assumption) | assumption)
               have q359 : x17_1 < (l0.length : Int) := d1_ (by first | (with_reducible assumption) | assumption)
               obtain ⟨ad359, e359, hx359_0⟩ := Kd.at_int HR0.out x17_1 p359 q359
               cases e359
               replace hx359_0 := (HB.out.cell (World.block_lt_of_cell? w _ hx359_0)).trans hx359_0
               replace p359 := eq_true p359
               replace q359 := eq_true q359
               have p360 : 0 ≤ (x22_2 : Int) := d1_ (by first | (with_reducible assumption) | assumption)
               have q360 : x22_2 < (l1.length : Int) := d1_ (by first | (with_reducible assumption) | assumption)
               obtain ⟨ad360, e360, hx360_0⟩ := Kd.at_int HR1.out x22_2 p360 q360
               cases e360
               replace hx360_0 := (HB.out.cell (World.block_lt_of_cell? w _ hx360_0)).trans hx360_0
               replace p360 := eq_true p360
               replace q360 := eq_true q360
               obtain ⟨Ao18, co18, eo18⟩ := Kd.R_slice HO_5.out
               subst eo18
               have p361 : 0 ≤ ((ji14) : Int) := d1_ (by first | (with_reducible assumption) | assumption)
               have q361 : (ji14) < (x5_2.length : Int) := d1_ (by first | (with_reducible assumption) | assumption)
               obtain ⟨ad361, e361, hx361_0⟩ := Kd.at_int (Kd.R_reads' HO_5.out).2.2 (ji14) p361 q361
               cases e361
               replace p361 := eq_true p361
               replace q361 := eq_true q361
               have p17 : 0 ≤ ((ji14) : Int) := d1_ (by first | (with_reducible assumption) | assumption)
               have q17 : ((ji14) : Int) < ((x5_2.length : Int) : Int) := d1_ (by first | (with_reducible assumption) | assumption)
               obtain ⟨go17, co17, eo17, gb17, gl17, cl17, HG17⟩ := Kd.R_form HO_5.out (by omega)
               (first | cases eo17 | (injection eo17 with ea_ en_ ec_; (first | subst ea_ | (injection ea_ with ea_; subst ea_)); subst ec_; clear en_))
               have GB17 := a0_ gb17
               have GG17 := a0_ HG17
               clear gb17 gl17 HG17
               (first | simp only [add_plain] at hx361_0 | skip)
               obtain ⟨hx17_0, hf17_0⟩ := Kd.R_celln 0 HO_5.out ((ji14) : Int) p17 q17
               replace p17 := eq_true p17
               replace q17 := eq_true q17
               have HP19 := Kd.R_putg HO_5.out ((ji14) : Int) ((IntKind.u64.wrap (x7_2 + (IntKind.u64.wrap ((IntKind.u64.wrap ((IntKind.u64.wrap (rd l0 x17_1)) * (IntKind.u64.wrap (rd l1 x22_2)))) + (IntKind.u64.wrap (rd x5_2 (ji14))))))) % 4294967296)
               go_wp2_with (first | ((with_reducible refine gate_store (t := 96) (p := 52) rfl ?_); (try (rw [drewN_self wr]; generalize hq_ : World.drewN wr _ = wr; have n0_ := a0_ (Kd.R_at hq_ HO_5.out); have n1_ := a0_ (below_at hq_ HB.out); clear hq_ HO_5 HB; have HO_5 := n0_; have HB := n1_; clear n0_ n1_; (try (obtain ⟨hx17_0, hf17_0⟩ := Kd.R_celln 0 HO_5.out ((ji14) : Int) (of_eq_true p17) (of_eq_true q17))); (try (have HP19 := Kd.R_putg HO_5.out ((ji14) : Int) ((IntKind.u64.wrap (x7_2 + (IntKind.u64.wrap ((IntKind.u64.wrap ((IntKind.u64.wrap (rd l0 x17_1)) * (IntKind.u64.wrap (rd l1 x22_2)))) + (IntKind.u64.wrap (rd x5_2 (ji14))))))) % 4294967296))))); refine store_event (t := 96) (p := 52) (v := ?vo_w20) (w1 := (wr.setCell ⟨go17, ((ji14) : Int).toNat, none⟩ (.int .u32 ((IntKind.u64.wrap (x7_2 + (IntKind.u64.wrap ((IntKind.u64.wrap ((IntKind.u64.wrap (rd l0 x17_1)) * (IntKind.u64.wrap (rd l1 x22_2)))) + (IntKind.u64.wrap (rd x5_2 (ji14))))))) % 4294967296)))) ?hg ?ho ?hn ?hr ?_; (case ho => rfl); (case hg => rfl); (case hn => rfl); (case hr => first | (go_simp; done) | (go_simp; rfl)); intro w20 hw; have hg : wr.grownBy w20 (some go17) := (by rw [hw]; exact HP19.2); have hp_ : Kd.R (Kd.int .u32) 96 w20 w.heap.size (fun k_ => (w.heap.size ≤ k_)) (.slice (some ⟨go17, 0, none⟩) x5_2.length co18) y362 := (by rw [hw, Ny362.out]; exact HP19.1); clear HP19; have n0_ := a0_ (hp_); have n1_ := a0_ ((by rw [hw]; exact b4_ (HB.out) GB17.out : Below w.heap.size w w20)); clear HO_5; clear HB; have HO_5 := n0_; have HB := n1_; clear n0_ n1_; clear hg hw hp_))
               repeat (go_quiet (first | ((with_reducible refine gate_store (t := 96) (p := 52) rfl ?_); (try (rw [drewN_self wr]; generalize hq_ : World.drewN wr _ = wr; have n0_ := a0_ (Kd.R_at hq_ HO_5.out); have n1_ := a0_ (below_at hq_ HB.out); clear hq_ HO_5 HB; have HO_5 := n0_; have HB := n1_; clear n0_ n1_; (try (obtain ⟨hx17_0, hf17_0⟩ := Kd.R_celln 0 HO_5.out ((ji14) : Int) (of_eq_true p17) (of_eq_true q17))); (try (have HP19 := Kd.R_putg HO_5.out ((ji14) : Int) ((IntKind.u64.wrap (x7_2 + (IntKind.u64.wrap ((IntKind.u64.wrap ((IntKind.u64.wrap (rd l0 x17_1)) * (IntKind.u64.wrap (rd l1 x22_2)))) + (IntKind.u64.wrap (rd x5_2 (ji14))))))) % 4294967296))))); refine store_event (t := 96) (p := 52) (v := ?vo_w20) (w1 := (wr.setCell ⟨go17, ((ji14) : Int).toNat, none⟩ (.int .u32 ((IntKind.u64.wrap (x7_2 + (IntKind.u64.wrap ((IntKind.u64.wrap ((IntKind.u64.wrap (rd l0 x17_1)) * (IntKind.u64.wrap (rd l1 x22_2)))) + (IntKind.u64.wrap (rd x5_2 (ji14))))))) % 4294967296)))) ?hg ?ho ?hn ?hr ?_; (case ho => rfl); (case hg => rfl); (case hn => rfl); (case hr => first | (go_simp; done) | (go_simp; rfl)); intro w20 hw; have hg : wr.grownBy w20 (some go17) := (by rw [hw]; exact HP19.2); have hp_ : Kd.R (Kd.int .u32) 96 w20 w.heap.size (fun k_ => (w.heap.size ≤ k_)) (.slice (some ⟨go17, 0, none⟩) x5_2.length co18) y362 := (by rw [hw, Ny362.out]; exact HP19.1); clear HP19; have n0_ := a0_ (hp_); have n1_ := a0_ ((by rw [hw]; exact b4_ (HB.out) GB17.out : Below w.heap.size w w20)); clear HO_5; clear HB; have HO_5 := n0_; have HB := n1_; clear n0_ n1_; clear hg hw hp_)); try go_wp2_with (first | ((with_reducible refine gate_store (t := 96) (p := 52) rfl ?_); (try (rw [drewN_self wr]; generalize hq_ : World.drewN wr _ = wr; have n0_ := a0_ (Kd.R_at hq_ HO_5.out); have n1_ := a0_ (below_at hq_ HB.out); clear hq_ HO_5 HB; have HO_5 := n0_; have HB := n1_; clear n0_ n1_; (try (obtain ⟨hx17_0, hf17_0⟩ := Kd.R_celln 0 HO_5.out ((ji14) : Int) (of_eq_true p17) (of_eq_true q17))); (try (have HP19 := Kd.R_putg HO_5.out ((ji14) : Int) ((IntKind.u64.wrap (x7_2 + (IntKind.u64.wrap ((IntKind.u64.wrap ((IntKind.u64.wrap (rd l0 x17_1)) * (IntKind.u64.wrap (rd l1 x22_2)))) + (IntKind.u64.wrap (rd x5_2 (ji14))))))) % 4294967296))))); refine store_event (t := 96) (p := 52) (v := ?vo_w20) (w1 := (wr.setCell ⟨go17, ((ji14) : Int).toNat, none⟩ (.int .u32 ((IntKind.u64.wrap (x7_2 + (IntKind.u64.wrap ((IntKind.u64.wrap ((IntKind.u64.wrap (rd l0 x17_1)) * (IntKind.u64.wrap (rd l1 x22_2)))) + (IntKind.u64.wrap (rd x5_2 (ji14))))))) % 4294967296)))) ?hg ?ho ?hn ?hr ?_; (case ho => rfl); (case hg => rfl); (case hn => rfl); (case hr => first | (go_simp; done) | (go_simp; rfl)); intro w20 hw; have hg : wr.grownBy w20 (some go17) := (by rw [hw]; exact HP19.2); have hp_ : Kd.R (Kd.int .u32) 96 w20 w.heap.size (fun k_ => (w.heap.size ≤ k_)) (.slice (some ⟨go17, 0, none⟩) x5_2.length co18) y362 := (by rw [hw, Ny362.out]; exact HP19.1); clear HP19; have n0_ := a0_ (hp_); have n1_ := a0_ ((by rw [hw]; exact b4_ (HB.out) GB17.out : Below w.heap.size w w20)); clear HO_5; clear HB; have HO_5 := n0_; have HB := n1_; clear n0_ n1_; clear hg hw hp_)))
               go_roundg k2
               case measure => have := HK1.out; have := HK2.out; omega
               case rel => exact ⟨(y362), ((IntKind.u64.wrap (x7_2 + (IntKind.u64.wrap ((IntKind.u64.wrap ((IntKind.u64.wrap (rd l0 x17_1)) * (IntKind.u64.wrap (rd l1 x22_2)))) + (IntKind.u64.wrap (rd x5_2 (ji14))))))) / 4294967296), (wrap64 (x22_2 + 1)), (by first | rfl | (simp; done) | (simp only [← hji14] <;> (first | rfl | simp)) | (simp [*]; done)), (by first | rfl | (simp; done) | (simp [*]; done)), H', ⟨by have := HK1.out; have := HK2.out; omega⟩, ⟨by (with_reducible repeat (first | apply r1_ | apply r2_ | apply r3_)); exact HO_5.out⟩, ⟨by repeat (first | (with_reducible first | exact HB.out | apply b1_ | apply b2_ | apply b3_) | exact HB.out)⟩⟩
              ·
               rw [if_neg c16] at H
               exact absurd H (by simp)
             ·
              rw [if_neg c15] at H
              exact absurd H (by simp)
            ·
             rw [if_neg c13] at H
             exact absurd H (by simp)
           ·
            rw [if_neg c12] at H
            exact absurd H (by simp)
          ·
           rw [if_neg c11] at H
           exact absurd H (by simp)
         ·
          rw [if_neg c10] at H
          exact absurd H (by simp)
        ·
         rw [if_neg c9] at H
         have c9b0 : decide (x22_2 < (l1.length : Int)) = false := d3_ c9
         clear c9
         obtain ⟨ji21, hji21⟩ : ∃ j_ : Int, (wrap64 (x17_1 + (l1.length : Int))) = j_ := ⟨_, rfl⟩
         replace H : (if 0 ≤ (ji21) then (if (ji21) < (x5_2.length : Int) then (spec_magMul.l0 k2 l0 l1 (x5_2.set ((ji21) : Int).toNat ((x7_2) % 4294967296)) (l0.length : Int) (wrap64 (x17_1 + 1))) else (none)) else (none)) = some r := by first | (rw [hji21] at H; exact H) | (simp only [hji21] at H ⊢; exact H)
         have hji21w : (IntKind.i64.wrap (x17_1 + (l1.length : Int))) = ji21 := (i64_w _).trans hji21
         by_cases c22 : 0 ≤ (ji21)
         ·
          rw [if_pos c22] at H
          have c22b0 : decide (0 ≤ (ji21)) = true := d2_ c22
          clear c22
          by_cases c23 : (ji21) < (x5_2.length : Int)
          ·
           rw [if_pos c23] at H
           have c23b0 : decide ((ji21) < (x5_2.length : Int)) = true := d2_ c23
           clear c23
           obtain ⟨y363, hy363⟩ : ∃ y_ : List Int, y_ = (x5_2.set ((ji21) : Int).toNat ((x7_2) % 4294967296)) := ⟨_, rfl⟩
           replace H : (spec_magMul.l0 k2 l0 l1 y363 (l0.length : Int) (wrap64 (x17_1 + 1))) = some r := by first | (rw [hy363]; with_reducible exact H) | (have H2_ := (o2_ _ _).symm.trans H; rw [hy363]; with_reducible exact H2_) | (have H2_ := (o2_ _ _).symm.trans H; with_reducible exact H2_) | with_reducible exact H | (rw [hy363]; exact H) | exact H
           have Ny363 := a0_ hy363
           clear hy363
           have H' := a0_ H
           clear H
           have p24 : 0 ≤ ((ji21) : Int) := d1_ (by first | (with_reducible assumption) | assumption)
           have q24 : ((ji21) : Int) < ((x5_2.length : Int) : Int) := d1_ (by first | (with_reducible assumption) | assumption)
           obtain ⟨go24, co24, eo24, gb24, gl24, cl24, HG24⟩ := Kd.R_form HO_5.out (by omega)
           (first | cases eo24 | (injection eo24 with ea_ en_ ec_; (first | subst ea_ | (injection ea_ with ea_; subst ea_)); subst ec_; clear en_))
           have GB24 := a0_ gb24
           have GG24 := a0_ HG24
           clear gb24 gl24 HG24
           obtain ⟨hx24_0, hf24_0⟩ := Kd.R_celln 0 HO_5.out ((ji21) : Int) p24 q24
           replace p24 := eq_true p24
           replace q24 := eq_true q24
           have HP25 := Kd.R_putg HO_5.out ((ji21) : Int) ((x7_2) % 4294967296)
           go_wp2_with (first | ((with_reducible refine gate_store (t := 96) (p := 63) rfl ?_); (try (rw [drewN_self wr]; generalize hq_ : World.drewN wr _ = wr; have n0_ := a0_ (Kd.R_at hq_ HO_5.out); have n1_ := a0_ (below_at hq_ HB.out); clear hq_ HO_5 HB; have HO_5 := n0_; have HB := n1_; clear n0_ n1_; (try (obtain ⟨hx24_0, hf24_0⟩ := Kd.R_celln 0 HO_5.out ((ji21) : Int) (of_eq_true p24) (of_eq_true q24))); (try (have HP25 := Kd.R_putg HO_5.out ((ji21) : Int) ((x7_2) % 4294967296))))); refine store_event (t := 96) (p := 63) (v := ?vo_w26) (w1 := (wr.setCell ⟨go24, ((ji21) : Int).toNat, none⟩ (.int .u32 ((x7_2) % 4294967296)))) ?hg ?ho ?hn ?hr ?_; (case ho => rfl); (case hg => rfl); (case hn => rfl); (case hr => first | (go_simp; done) | (go_simp; rfl)); intro w26 hw; have hg : wr.grownBy w26 (some go24) := (by rw [hw]; exact HP25.2); have hp_ : Kd.R (Kd.int .u32) 96 w26 w.heap.size (fun k_ => (w.heap.size ≤ k_)) (.slice (some ⟨go24, 0, none⟩) x5_2.length co24) y363 := (by rw [hw, Ny363.out]; exact HP25.1); clear HP25; have n0_ := a0_ (hp_); have n1_ := a0_ ((by rw [hw]; exact b4_ (HB.out) GB24.out : Below w.heap.size w w26)); clear HO_5; clear HB; have HO_5 := n0_; have HB := n1_; clear n0_ n1_; clear hg hw hp_))
           repeat (go_quiet (first | ((with_reducible refine gate_store (t := 96) (p := 63) rfl ?_); (try (rw [drewN_self wr]; generalize hq_ : World.drewN wr _ = wr; have n0_ := a0_ (Kd.R_at hq_ HO_5.out); have n1_ := a0_ (below_at hq_ HB.out); clear hq_ HO_5 HB; have HO_5 := n0_; have HB := n1_; clear n0_ n1_; (try (obtain ⟨hx24_0, hf24_0⟩ := Kd.R_celln 0 HO_5.out ((ji21) : Int) (of_eq_true p24) (of_eq_true q24))); (try (have HP25 := Kd.R_putg HO_5.out ((ji21) : Int) ((x7_2) % 4294967296))))); refine store_event (t := 96) (p := 63) (v := ?vo_w26) (w1 := (wr.setCell ⟨go24, ((ji21) : Int).toNat, none⟩ (.int .u32 ((x7_2) % 4294967296)))) ?hg ?ho ?hn ?hr ?_; (case ho => rfl); (case hg => rfl); (case hn => rfl); (case hr => first | (go_simp; done) | (go_simp; rfl)); intro w26 hw; have hg : wr.grownBy w26 (some go24) := (by rw [hw]; exact HP25.2); have hp_ : Kd.R (Kd.int .u32) 96 w26 w.heap.size (fun k_ => (w.heap.size ≤ k_)) (.slice (some ⟨go24, 0, none⟩) x5_2.length co24) y363 := (by rw [hw, Ny363.out]; exact HP25.1); clear HP25; have n0_ := a0_ (hp_); have n1_ := a0_ ((by rw [hw]; exact b4_ (HB.out) GB24.out : Below w.heap.size w w26)); clear HO_5; clear HB; have HO_5 := n0_; have HB := n1_; clear n0_ n1_; clear hg hw hp_)); try go_wp2_with (first | ((with_reducible refine gate_store (t := 96) (p := 63) rfl ?_); (try (rw [drewN_self wr]; generalize hq_ : World.drewN wr _ = wr; have n0_ := a0_ (Kd.R_at hq_ HO_5.out); have n1_ := a0_ (below_at hq_ HB.out); clear hq_ HO_5 HB; have HO_5 := n0_; have HB := n1_; clear n0_ n1_; (try (obtain ⟨hx24_0, hf24_0⟩ := Kd.R_celln 0 HO_5.out ((ji21) : Int) (of_eq_true p24) (of_eq_true q24))); (try (have HP25 := Kd.R_putg HO_5.out ((ji21) : Int) ((x7_2) % 4294967296))))); refine store_event (t := 96) (p := 63) (v := ?vo_w26) (w1 := (wr.setCell ⟨go24, ((ji21) : Int).toNat, none⟩ (.int .u32 ((x7_2) % 4294967296)))) ?hg ?ho ?hn ?hr ?_; (case ho => rfl); (case hg => rfl); (case hn => rfl); (case hr => first | (go_simp; done) | (go_simp; rfl)); intro w26 hw; have hg : wr.grownBy w26 (some go24) := (by rw [hw]; exact HP25.2); have hp_ : Kd.R (Kd.int .u32) 96 w26 w.heap.size (fun k_ => (w.heap.size ≤ k_)) (.slice (some ⟨go24, 0, none⟩) x5_2.length co24) y363 := (by rw [hw, Ny363.out]; exact HP25.1); clear HP25; have n0_ := a0_ (hp_); have n1_ := a0_ ((by rw [hw]; exact b4_ (HB.out) GB24.out : Below w.heap.size w w26)); clear HO_5; clear HB; have HO_5 := n0_; have HB := n1_; clear n0_ n1_; clear hg hw hp_)))
           go_roundg k2
           case measure => have := HK1.out; have := HK2.out; omega
           case rel => exact ⟨(y363), (wrap64 (x17_1 + 1)), (by first | rfl | (simp; done) | (simp [*]; done)), H', ⟨by have := HK1.out; have := HK2.out; omega⟩, ⟨by (with_reducible repeat (first | apply r1_ | apply r2_ | apply r3_)); exact HO_5.out⟩, ⟨by repeat (first | (with_reducible first | exact HB.out | apply b1_ | apply b2_ | apply b3_) | exact HB.out)⟩⟩
          ·
           rw [if_neg c23] at H
           exact absurd H (by simp)
         ·
          rw [if_neg c22] at H
          exact absurd H (by simp)
     ·
      rw [if_neg c8] at H
      have c8b0 : decide (x17_1 < (l0.length : Int)) = false := d3_ c8
      clear c8
      replace H := Option.bind_eq_some_iff.mp H
      obtain ⟨t356, A270, H⟩ := H
      replace H : (some t356) = some r := H
      have A27 := a0_ A270
      clear A270
      obtain rfl := o1_ H
      obtain ⟨Ao28, co28, eo28⟩ := Kd.R_slice HO_5.out
      subst eo28
      go_wp2_with (first | (go_at_call 73; (with_reducible refine (spec_trim.calls k1 (fun k_ => some k_ = (.slice Ao28 x5_1.length co28 : Value).ownBlock) _ _ x5_1 t356 _ ?side1 A27.out).mono ?_); (case side1 => exact Kd.R_V (Kd.R_tight rfl (HO_5.out))); rintro e w29 ⟨v357, rfl, ho0, hb⟩; have n0_ := a0_ (Kd.R_below (by (with_reducible repeat (first | apply r1_ | apply r2_ | apply r3_)); exact HO_5.out) hb); have n1_ := a0_ (Kd.V_lower (v4_ (ok' := fun k_ => (w.heap.size ≤ k_)) ho0 (fun k_ hk_ => Or.elim hk_ (fun hs_ => ((HO_5.out).1 k_ hs_.symm)) (fun hn_ => (Nat.le_trans (below_size (by repeat (first | (with_reducible first | exact HB.out | apply b1_ | apply b2_ | apply b3_) | exact HB.out))) hn_)))) (below_size (by repeat (first | (with_reducible first | exact HB.out | apply b1_ | apply b2_ | apply b3_) | exact HB.out)))); have n2_ := a0_ (below_step (by repeat (first | (with_reducible first | exact HB.out | apply b1_ | apply b2_ | apply b3_) | exact HB.out)) hb); clear HO_5; clear HB; have HO_5 := n0_; have HO358 := n1_; have HB := n2_; clear n0_ n1_ n2_; (try clear hb); (try clear hb2); (try clear hk); (try clear hi); (try clear ho0)))
      repeat (go_quiet (first | (go_at_call 73; (with_reducible refine (spec_trim.calls k1 (fun k_ => some k_ = (.slice Ao28 x5_1.length co28 : Value).ownBlock) _ _ x5_1 t356 _ ?side1 A27.out).mono ?_); (case side1 => exact Kd.R_V (Kd.R_tight rfl (HO_5.out))); rintro e w29 ⟨v357, rfl, ho0, hb⟩; have n0_ := a0_ (Kd.R_below (by (with_reducible repeat (first | apply r1_ | apply r2_ | apply r3_)); exact HO_5.out) hb); have n1_ := a0_ (Kd.V_lower (v4_ (ok' := fun k_ => (w.heap.size ≤ k_)) ho0 (fun k_ hk_ => Or.elim hk_ (fun hs_ => ((HO_5.out).1 k_ hs_.symm)) (fun hn_ => (Nat.le_trans (below_size (by repeat (first | (with_reducible first | exact HB.out | apply b1_ | apply b2_ | apply b3_) | exact HB.out))) hn_)))) (below_size (by repeat (first | (with_reducible first | exact HB.out | apply b1_ | apply b2_ | apply b3_) | exact HB.out)))); have n2_ := a0_ (below_step (by repeat (first | (with_reducible first | exact HB.out | apply b1_ | apply b2_ | apply b3_) | exact HB.out)) hb); clear HO_5; clear HB; have HO_5 := n0_; have HO358 := n1_; have HB := n2_; clear n0_ n1_ n2_; (try clear hb); (try clear hb2); (try clear hk); (try clear hi); (try clear ho0))); try go_wp2_with (first | (go_at_call 73; (with_reducible refine (spec_trim.calls k1 (fun k_ => some k_ = (.slice Ao28 x5_1.length co28 : Value).ownBlock) _ _ x5_1 t356 _ ?side1 A27.out).mono ?_); (case side1 => exact Kd.R_V (Kd.R_tight rfl (HO_5.out))); rintro e w29 ⟨v357, rfl, ho0, hb⟩; have n0_ := a0_ (Kd.R_below (by (with_reducible repeat (first | apply r1_ | apply r2_ | apply r3_)); exact HO_5.out) hb); have n1_ := a0_ (Kd.V_lower (v4_ (ok' := fun k_ => (w.heap.size ≤ k_)) ho0 (fun k_ hk_ => Or.elim hk_ (fun hs_ => ((HO_5.out).1 k_ hs_.symm)) (fun hn_ => (Nat.le_trans (below_size (by repeat (first | (with_reducible first | exact HB.out | apply b1_ | apply b2_ | apply b3_) | exact HB.out))) hn_)))) (below_size (by repeat (first | (with_reducible first | exact HB.out | apply b1_ | apply b2_ | apply b3_) | exact HB.out)))); have n2_ := a0_ (below_step (by repeat (first | (with_reducible first | exact HB.out | apply b1_ | apply b2_ | apply b3_) | exact HB.out)) hb); clear HO_5; clear HB; have HO_5 := n0_; have HO358 := n1_; have HB := n2_; clear n0_ n1_ n2_; (try clear hb); (try clear hb2); (try clear hk); (try clear hi); (try clear ho0))))
      go_ret
      exact ⟨_, by first | rfl | (simp [e1_, e2_] <;> rfl) | (simp only [← hji3]; first | rfl | (simp [e1_, e2_] <;> rfl)) | (simp [*, e1_, e2_] <;> rfl), by (with_reducible repeat (first | apply v1_ | apply v2_ | apply v3_)); exact HO358.out, by repeat (first | (with_reducible first | exact HB.out | apply b1_ | apply b2_ | apply b3_) | exact HB.out)⟩
  ·
   rw [if_neg c5] at H
   exact absurd H (by simp)
 ·
  rw [if_neg c4] at H
  exact absurd H (by simp)

/-! ### spec_magAdd: function 38 -/
mutual
def spec_magAdd.l0 : Nat → List Int → List Int → List Int → Int → Int → Option (List Int)
 | 0, _, _, _, _, _ => none
 | k + 1, x0, x1, x5, x6, x7 => if x7 < (x0.length : Int) then (spec_magAdd.j1 k x0 x1 x5 x6 x7 true) else (if x7 < (x1.length : Int) then (spec_magAdd.j1 k x0 x1 x5 x6 x7 true) else (spec_magAdd.j1 k x0 x1 x5 x6 x7 (decide (x6 > 0))))
def spec_magAdd.j1 : Nat → List Int → List Int → List Int → Int → Int → Bool → Option (List Int)
 | 0, _, _, _, _, _, _ => none
 | k + 1, x0, x1, x5, x6, x7, x21 => if x21 = true then (if x7 < (x0.length : Int) then (if 0 ≤ x7 then (if x7 < (x1.length : Int) then (if x5.length < 35184372088832 then (spec_magAdd.l0 k x0 x1 (x5 ++ [(IntKind.u64.wrap ((IntKind.u64.wrap (x6 + (IntKind.u64.wrap (rd x0 x7)))) + (IntKind.u64.wrap (rd x1 x7)))) % 4294967296]) ((IntKind.u64.wrap ((IntKind.u64.wrap (x6 + (IntKind.u64.wrap (rd x0 x7)))) + (IntKind.u64.wrap (rd x1 x7)))) / 4294967296) (wrap64 (x7 + 1))) else (none)) else (if x5.length < 35184372088832 then (spec_magAdd.l0 k x0 x1 (x5 ++ [(IntKind.u64.wrap (x6 + (IntKind.u64.wrap (rd x0 x7)))) % 4294967296]) ((IntKind.u64.wrap (x6 + (IntKind.u64.wrap (rd x0 x7)))) / 4294967296) (wrap64 (x7 + 1))) else (none))) else (none)) else (if x7 < (x1.length : Int) then (if 0 ≤ x7 then (if x5.length < 35184372088832 then (spec_magAdd.l0 k x0 x1 (x5 ++ [(IntKind.u64.wrap (x6 + (IntKind.u64.wrap (rd x1 x7)))) % 4294967296]) ((IntKind.u64.wrap (x6 + (IntKind.u64.wrap (rd x1 x7)))) / 4294967296) (wrap64 (x7 + 1))) else (none)) else (none)) else (if x5.length < 35184372088832 then (spec_magAdd.l0 k x0 x1 (x5 ++ [(x6) % 4294967296]) (x6 / 4294967296) (wrap64 (x7 + 1))) else (none)))) else (some x5)
end
def spec_magAdd.f (k : Nat) (l0 : List Int) (l1 : List Int) : Option (List Int) := spec_magAdd.l0 k l0 l1 ([] : List Int) 0 0
set_option maxHeartbeats 8000000 in
set_option maxRecDepth 100000 in
theorem spec_magAdd.calls (k : Nat) (A0 : Option Addr) (c0 : Nat) (l0 : List Int) (A1 : Option Addr) (c1 : Nat) (l1 : List Int) (r : List Int) (w : World) (hr0 : Kd.C (Kd.int .u32) w A0 l0.length l0) (hc0 : l0.length ≤ c0) (hr1 : Kd.C (Kd.int .u32) w A1 l1.length l1) (hc1 : l1.length ≤ c1) (h : spec_magAdd.f k l0 l1 = some r) :
  Calls Try.prog 38 #[.slice A0 l0.length c0, .slice A1 l1.length c1] w fun e w' => ∃ v0_ : Value, e = .returned (v0_) ∧ Kd.R (Kd.int .u32) 96 w' w.heap.size (fun _ => True) v0_ r ∧ Below w.heap.size w w' := by
 have HR0 := a0_ hr0
 have HC0 := a0_ hc0
 clear hr0 hc0
 have HR1 := a0_ hr1
 have HC1 := a0_ hc1
 clear hr1 hc1
 have HB := a0_ (Below.refl w.heap.size w)
 have H : (spec_magAdd.l0 k l0 l1 ([] : List Int) 0 0) = some r := h
 clear h
 have H' := a0_ H
 clear H
 go_enter Try.func38, Try.ntmps38
 go_wp2
 go_loopg [5, 6, 7] k (fun kq v5 v6 v7 w' => ∃ (x5_1 : List Int) (x6_1 : Int) (x7_1 : Int), v6 = .int .u64 x6_1 ∧ v7 = .int .i64 x7_1 ∧ Aside0 (spec_magAdd.l0 kq l0 l1 x5_1 x6_1 x7_1 = some r) ∧ Aside0 (kq ≤ k) ∧ Aside0 (Kd.R (Kd.int .u32) 96 w' w.heap.size (fun _ => True) v5 x5_1) ∧ Aside0 (Below w.heap.size w w'))
 case atStart => exact ⟨(([] : List Int)), (0), (0), (by first | rfl | (simp; done) | (simp [*]; done)), (by first | rfl | (simp; done) | (simp [*]; done)), H', ⟨Nat.le_refl _⟩, ⟨by first | exact Kd.R_nil _ _ _ _ _ | exact Kd.N_nil _ _ _ _ _ | exact Kd.V_nil _ _ _ _ _ | exact Kd.Q_nil _ _ _ _ _ | exact Kd.S_nil _ _ _ _ _⟩, ⟨by repeat (first | (with_reducible first | exact HB.out | apply b1_ | apply b2_ | apply b3_) | exact HB.out)⟩⟩
 case round =>
  clear H'
  try clear c1
  try clear p2
  obtain ⟨x5_1, x6_1, x7_1, rfl, rfl, HA, HK1, HO_5, HB⟩ := hrel
  cases gk with
  | zero => exact absurd HA.out (by simp [spec_magAdd.l0])
  | succ k1 =>
   have H := HA.out
   clear HA
   simp only [spec_magAdd.l0] at H
   have HC3 := a0_ H
   clear H
   go_upto_region 4 with (fail)
   go_cut [21] (fun v21 wc => ∃ (kq : Nat) (x21_2 : Bool), v21 = .bool x21_2 ∧ Aside0 (spec_magAdd.j1 kq l0 l1 x5_1 x6_1 x7_1 x21_2 = some r) ∧ Aside0 (kq ≤ k1) ∧ Aside0 (Kd.R (Kd.int .u32) 96 wc w.heap.size (fun _ => True) u5 x5_1) ∧ Aside0 (Below w.heap.size w wc))
   case first =>
    have H := HC3.out
    clear HC3
    by_cases c4 : x7_1 < (l0.length : Int)
    ·
     rw [if_pos c4] at H
     have c4b0 : decide (x7_1 < (l0.length : Int)) = true := d2_ c4
     clear c4
     (first | rw [c4b0] | (simp only [i64_w, i32_w]; rw [c4b0]) | skip)
     have H' := a0_ H
     clear H
     go_wp2
     go_meet
     case rel => exact ⟨_, (true), (by first | rfl | (simp; done) | (simp [*]; done)), H', ⟨by have := HK1.out; first | omega | exact Nat.le_refl _⟩, ⟨by (with_reducible repeat (first | apply r1_ | apply r2_ | apply r3_)); exact HO_5.out⟩, ⟨by repeat (first | (with_reducible first | exact HB.out | apply b1_ | apply b2_ | apply b3_) | exact HB.out)⟩⟩
    ·
     rw [if_neg c4] at H
     have c4b0 : decide (x7_1 < (l0.length : Int)) = false := d3_ c4
     clear c4
     (first | rw [c4b0] | (simp only [i64_w, i32_w]; rw [c4b0]) | skip)
     by_cases c5 : x7_1 < (l1.length : Int)
     ·
      rw [if_pos c5] at H
      have c5b0 : decide (x7_1 < (l1.length : Int)) = true := d2_ c5
      clear c5
      have H' := a0_ H
      clear H
      go_wp2
      go_meet
      case rel => exact ⟨_, (true), (by first | rfl | (simp; done) | (simp [*]; done)), H', ⟨by have := HK1.out; first | omega | exact Nat.le_refl _⟩, ⟨by (with_reducible repeat (first | apply r1_ | apply r2_ | apply r3_)); exact HO_5.out⟩, ⟨by repeat (first | (with_reducible first | exact HB.out | apply b1_ | apply b2_ | apply b3_) | exact HB.out)⟩⟩
     ·
      rw [if_neg c5] at H
      have c5b0 : decide (x7_1 < (l1.length : Int)) = false := d3_ c5
      clear c5
      have H' := a0_ H
      clear H
      go_wp2
      go_meet
      case rel => exact ⟨_, (decide (x6_1 > 0)), (by first | rfl | (simp; done) | (simp [*]; done)), H', ⟨by have := HK1.out; first | omega | exact Nat.le_refl _⟩, ⟨by (with_reducible repeat (first | apply r1_ | apply r2_ | apply r3_)); exact HO_5.out⟩, ⟨by repeat (first | (with_reducible first | exact HB.out | apply b1_ | apply b2_ | apply b3_) | exact HB.out)⟩⟩
   case rest =>
    clear HC3
    try clear c1
    try clear p2
    try clear c3
    try clear c4
    try clear c4b0
    try clear c5
    try clear c5b0
    try clear p2
    obtain ⟨kq, x21_2, rfl, HA, HJ2, HO_5, HB⟩ := hcut
    cases kq with
    | zero => exact absurd HA.out (by simp [spec_magAdd.j1])
    | succ kj2 =>
     have H := HA.out
     clear HA
     simp only [spec_magAdd.j1] at H
     by_cases c6 : x21_2 = true
     ·
      subst c6
      have H1 : (if x7_1 < (l0.length : Int) then (if 0 ≤ x7_1 then (if x7_1 < (l1.length : Int) then (if x5_1.length < 35184372088832 then (spec_magAdd.l0 kj2 l0 l1 (x5_1 ++ [(IntKind.u64.wrap ((IntKind.u64.wrap (x6_1 + (IntKind.u64.wrap (rd l0 x7_1)))) + (IntKind.u64.wrap (rd l1 x7_1)))) % 4294967296]) ((IntKind.u64.wrap ((IntKind.u64.wrap (x6_1 + (IntKind.u64.wrap (rd l0 x7_1)))) + (IntKind.u64.wrap (rd l1 x7_1)))) / 4294967296) (wrap64 (x7_1 + 1))) else (none)) else (if x5_1.length < 35184372088832 then (spec_magAdd.l0 kj2 l0 l1 (x5_1 ++ [(IntKind.u64.wrap (x6_1 + (IntKind.u64.wrap (rd l0 x7_1)))) % 4294967296]) ((IntKind.u64.wrap (x6_1 + (IntKind.u64.wrap (rd l0 x7_1)))) / 4294967296) (wrap64 (x7_1 + 1))) else (none))) else (none)) else (if x7_1 < (l1.length : Int) then (if 0 ≤ x7_1 then (if x5_1.length < 35184372088832 then (spec_magAdd.l0 kj2 l0 l1 (x5_1 ++ [(IntKind.u64.wrap (x6_1 + (IntKind.u64.wrap (rd l1 x7_1)))) % 4294967296]) ((IntKind.u64.wrap (x6_1 + (IntKind.u64.wrap (rd l1 x7_1)))) / 4294967296) (wrap64 (x7_1 + 1))) else (none)) else (none)) else (if x5_1.length < 35184372088832 then (spec_magAdd.l0 kj2 l0 l1 (x5_1 ++ [(x6_1) % 4294967296]) (x6_1 / 4294967296) (wrap64 (x7_1 + 1))) else (none)))) = some r := by rw [if_pos rfl] at H; exact H
      clear H
      have H := H1
      clear H1
      by_cases c7 : x7_1 < (l0.length : Int)
      ·
       rw [if_pos c7] at H
       have c7b0 : decide (x7_1 < (l0.length : Int)) = true := d2_ c7
       clear c7
       by_cases c8 : 0 ≤ x7_1
       ·
        rw [if_pos c8] at H
        have c8b0 : decide (0 ≤ x7_1) = true := d2_ c8
        clear c8
        by_cases c9 : x7_1 < (l1.length : Int)
        ·
         rw [if_pos c9] at H
         have c9b0 : decide (x7_1 < (l1.length : Int)) = true := d2_ c9
         clear c9
         by_cases c10 : x5_1.length < 35184372088832
         ·
          rw [if_pos c10] at H
          have LMc10 := a0_ c10
          clear c10
          obtain ⟨y124, hy124⟩ : ∃ y_ : List Int, y_ = (x5_1 ++ [(IntKind.u64.wrap ((IntKind.u64.wrap (x6_1 + (IntKind.u64.wrap (rd l0 x7_1)))) + (IntKind.u64.wrap (rd l1 x7_1)))) % 4294967296]) := ⟨_, rfl⟩
          replace H : (spec_magAdd.l0 kj2 l0 l1 y124 ((IntKind.u64.wrap ((IntKind.u64.wrap (x6_1 + (IntKind.u64.wrap (rd l0 x7_1)))) + (IntKind.u64.wrap (rd l1 x7_1)))) / 4294967296) (wrap64 (x7_1 + 1))) = some r := by first | (rw [hy124]; with_reducible exact H) | (have H2_ := (o2_ _ _).symm.trans H; rw [hy124]; with_reducible exact H2_) | (have H2_ := (o2_ _ _).symm.trans H; with_reducible exact H2_) | with_reducible exact H | (rw [hy124]; exact H) | exact H
          have Ny124 := a0_ hy124
          clear hy124
          have H' := a0_ H
          clear H
          have p122 : 0 ≤ (x7_1 : Int) := d1_ (by first | (with_reducible assumption) | assumption)
          have q122 : x7_1 < (l0.length : Int) := d1_ (by first | (with_reducible assumption) | assumption)
          obtain ⟨ad122, e122, hx122_0⟩ := Kd.at_int HR0.out x7_1 p122 q122
          cases e122
          replace hx122_0 := (HB.out.cell (World.block_lt_of_cell? w _ hx122_0)).trans hx122_0
          replace p122 := eq_true p122
          replace q122 := eq_true q122
          have p123 : 0 ≤ (x7_1 : Int) := d1_ (by first | (with_reducible assumption) | assumption)
          have q123 : x7_1 < (l1.length : Int) := d1_ (by first | (with_reducible assumption) | assumption)
          obtain ⟨ad123, e123, hx123_0⟩ := Kd.at_int HR1.out x7_1 p123 q123
          cases e123
          replace hx123_0 := (HB.out.cell (World.block_lt_of_cell? w _ hx123_0)).trans hx123_0
          replace p123 := eq_true p123
          replace q123 := eq_true q123
          go_wp2_with (first | ((with_reducible refine gate_builtin (b := .append) (xs := #[.tmp 46, .tmp 49]) rfl ?_); (try (refine gate_guard (by rfl) ?_; dsimp only)); at_builtin; refine Kd.R_append (Kd.int .u32) (w0 := w) w.heap.size rfl (.tmp 46) (.tmp 49) 27 96 (.int .u32 0) 4 rfl Try.underlying27 info96 rfl (by decide) (by omega) u5 x5_1 ((IntKind.u64.wrap ((IntKind.u64.wrap (x6_1 + (IntKind.u64.wrap (rd l0 x7_1)))) + (IntKind.u64.wrap (rd l1 x7_1)))) % 4294967296) [.int .u32 ((IntKind.u64.wrap ((IntKind.u64.wrap (x6_1 + (IntKind.u64.wrap (rd l0 x7_1)))) + (IntKind.u64.wrap (rd l1 x7_1)))) % 4294967296)] (fun _ => True) (fun _ => False) rfl rfl ?aP (fun _ hk => hk.elim) ?aF ?aO ?aB ?aS ?aL ?_; (case aP => exact rfl); (case aB => exact (by repeat (first | (with_reducible first | exact HB.out | apply b1_ | apply b2_ | apply b3_) | exact HB.out))); (case aF => exact (fun _ _ => trivial)); (case aO => exact (by (with_reducible repeat (first | apply r1_ | apply r2_ | apply r3_)); exact HO_5.out)); (case aS => exact (below_size (by repeat (first | (with_reducible first | exact HB.out | apply b1_ | apply b2_ | apply b3_) | exact HB.out)))); (case aL => have := LMc10.out; omega); intro v125 w11 ho hb hg hat; rw [← Ny124.out] at ho; have n0_ := a0_ (hb); have n1_ := a0_ (ho); clear HB; clear HO_5; have HB := n0_; have HO126 := n1_; clear n0_ n1_; clear ho hb hg hat))
          go_roundg kj2
          case measure => have := HK1.out; have := HJ2.out; omega
          case rel => exact ⟨(y124), ((IntKind.u64.wrap ((IntKind.u64.wrap (x6_1 + (IntKind.u64.wrap (rd l0 x7_1)))) + (IntKind.u64.wrap (rd l1 x7_1)))) / 4294967296), (wrap64 (x7_1 + 1)), (by first | rfl | (simp; done) | (simp [*]; done)), (by first | rfl | (simp; done) | (simp [*]; done)), H', ⟨by have := HK1.out; have := HJ2.out; omega⟩, ⟨by (with_reducible repeat (first | apply r1_ | apply r2_ | apply r3_)); exact HO126.out⟩, ⟨by repeat (first | (with_reducible first | exact HB.out | apply b1_ | apply b2_ | apply b3_) | exact HB.out)⟩⟩
         ·
          rw [if_neg c10] at H
          exact absurd H (by simp)
        ·
         rw [if_neg c9] at H
         have c9b0 : decide (x7_1 < (l1.length : Int)) = false := d3_ c9
         clear c9
         by_cases c12 : x5_1.length < 35184372088832
         ·
          rw [if_pos c12] at H
          have LMc12 := a0_ c12
          clear c12
          obtain ⟨y127, hy127⟩ : ∃ y_ : List Int, y_ = (x5_1 ++ [(IntKind.u64.wrap (x6_1 + (IntKind.u64.wrap (rd l0 x7_1)))) % 4294967296]) := ⟨_, rfl⟩
          replace H : (spec_magAdd.l0 kj2 l0 l1 y127 ((IntKind.u64.wrap (x6_1 + (IntKind.u64.wrap (rd l0 x7_1)))) / 4294967296) (wrap64 (x7_1 + 1))) = some r := by first | (rw [hy127]; with_reducible exact H) | (have H2_ := (o2_ _ _).symm.trans H; rw [hy127]; with_reducible exact H2_) | (have H2_ := (o2_ _ _).symm.trans H; with_reducible exact H2_) | with_reducible exact H | (rw [hy127]; exact H) | exact H
          have Ny127 := a0_ hy127
          clear hy127
          have H' := a0_ H
          clear H
          have p122 : 0 ≤ (x7_1 : Int) := d1_ (by first | (with_reducible assumption) | assumption)
          have q122 : x7_1 < (l0.length : Int) := d1_ (by first | (with_reducible assumption) | assumption)
          obtain ⟨ad122, e122, hx122_0⟩ := Kd.at_int HR0.out x7_1 p122 q122
          cases e122
          replace hx122_0 := (HB.out.cell (World.block_lt_of_cell? w _ hx122_0)).trans hx122_0
          replace p122 := eq_true p122
          replace q122 := eq_true q122
          go_wp2_with (first | ((with_reducible refine gate_builtin (b := .append) (xs := #[.tmp 46, .tmp 49]) rfl ?_); (try (refine gate_guard (by rfl) ?_; dsimp only)); at_builtin; refine Kd.R_append (Kd.int .u32) (w0 := w) w.heap.size rfl (.tmp 46) (.tmp 49) 27 96 (.int .u32 0) 4 rfl Try.underlying27 info96 rfl (by decide) (by omega) u5 x5_1 ((IntKind.u64.wrap (x6_1 + (IntKind.u64.wrap (rd l0 x7_1)))) % 4294967296) [.int .u32 ((IntKind.u64.wrap (x6_1 + (IntKind.u64.wrap (rd l0 x7_1)))) % 4294967296)] (fun _ => True) (fun _ => False) rfl rfl ?aP (fun _ hk => hk.elim) ?aF ?aO ?aB ?aS ?aL ?_; (case aP => exact rfl); (case aB => exact (by repeat (first | (with_reducible first | exact HB.out | apply b1_ | apply b2_ | apply b3_) | exact HB.out))); (case aF => exact (fun _ _ => trivial)); (case aO => exact (by (with_reducible repeat (first | apply r1_ | apply r2_ | apply r3_)); exact HO_5.out)); (case aS => exact (below_size (by repeat (first | (with_reducible first | exact HB.out | apply b1_ | apply b2_ | apply b3_) | exact HB.out)))); (case aL => have := LMc12.out; omega); intro v128 w13 ho hb hg hat; rw [← Ny127.out] at ho; have n0_ := a0_ (hb); have n1_ := a0_ (ho); clear HB; clear HO_5; have HB := n0_; have HO129 := n1_; clear n0_ n1_; clear ho hb hg hat))
          go_roundg kj2
          case measure => have := HK1.out; have := HJ2.out; omega
          case rel => exact ⟨(y127), ((IntKind.u64.wrap (x6_1 + (IntKind.u64.wrap (rd l0 x7_1)))) / 4294967296), (wrap64 (x7_1 + 1)), (by first | rfl | (simp; done) | (simp [*]; done)), (by first | rfl | (simp; done) | (simp [*]; done)), H', ⟨by have := HK1.out; have := HJ2.out; omega⟩, ⟨by (with_reducible repeat (first | apply r1_ | apply r2_ | apply r3_)); exact HO129.out⟩, ⟨by repeat (first | (with_reducible first | exact HB.out | apply b1_ | apply b2_ | apply b3_) | exact HB.out)⟩⟩
         ·
          rw [if_neg c12] at H
          exact absurd H (by simp)
       ·
        rw [if_neg c8] at H
        exact absurd H (by simp)
      ·
       rw [if_neg c7] at H
       have c7b0 : decide (x7_1 < (l0.length : Int)) = false := d3_ c7
       clear c7
       by_cases c14 : x7_1 < (l1.length : Int)
       ·
        rw [if_pos c14] at H
        have c14b0 : decide (x7_1 < (l1.length : Int)) = true := d2_ c14
        clear c14
        by_cases c15 : 0 ≤ x7_1
        ·
         rw [if_pos c15] at H
         have c15b0 : decide (0 ≤ x7_1) = true := d2_ c15
         clear c15
         by_cases c16 : x5_1.length < 35184372088832
         ·
          rw [if_pos c16] at H
          have LMc16 := a0_ c16
          clear c16
          obtain ⟨y131, hy131⟩ : ∃ y_ : List Int, y_ = (x5_1 ++ [(IntKind.u64.wrap (x6_1 + (IntKind.u64.wrap (rd l1 x7_1)))) % 4294967296]) := ⟨_, rfl⟩
          replace H : (spec_magAdd.l0 kj2 l0 l1 y131 ((IntKind.u64.wrap (x6_1 + (IntKind.u64.wrap (rd l1 x7_1)))) / 4294967296) (wrap64 (x7_1 + 1))) = some r := by first | (rw [hy131]; with_reducible exact H) | (have H2_ := (o2_ _ _).symm.trans H; rw [hy131]; with_reducible exact H2_) | (have H2_ := (o2_ _ _).symm.trans H; with_reducible exact H2_) | with_reducible exact H | (rw [hy131]; exact H) | exact H
          have Ny131 := a0_ hy131
          clear hy131
          have H' := a0_ H
          clear H
          have p130 : 0 ≤ (x7_1 : Int) := d1_ (by first | (with_reducible assumption) | assumption)
          have q130 : x7_1 < (l1.length : Int) := d1_ (by first | (with_reducible assumption) | assumption)
          obtain ⟨ad130, e130, hx130_0⟩ := Kd.at_int HR1.out x7_1 p130 q130
          cases e130
          replace hx130_0 := (HB.out.cell (World.block_lt_of_cell? w _ hx130_0)).trans hx130_0
          replace p130 := eq_true p130
          replace q130 := eq_true q130
          go_wp2_with (first | ((with_reducible refine gate_builtin (b := .append) (xs := #[.tmp 46, .tmp 49]) rfl ?_); (try (refine gate_guard (by rfl) ?_; dsimp only)); at_builtin; refine Kd.R_append (Kd.int .u32) (w0 := w) w.heap.size rfl (.tmp 46) (.tmp 49) 27 96 (.int .u32 0) 4 rfl Try.underlying27 info96 rfl (by decide) (by omega) u5 x5_1 ((IntKind.u64.wrap (x6_1 + (IntKind.u64.wrap (rd l1 x7_1)))) % 4294967296) [.int .u32 ((IntKind.u64.wrap (x6_1 + (IntKind.u64.wrap (rd l1 x7_1)))) % 4294967296)] (fun _ => True) (fun _ => False) rfl rfl ?aP (fun _ hk => hk.elim) ?aF ?aO ?aB ?aS ?aL ?_; (case aP => exact rfl); (case aB => exact (by repeat (first | (with_reducible first | exact HB.out | apply b1_ | apply b2_ | apply b3_) | exact HB.out))); (case aF => exact (fun _ _ => trivial)); (case aO => exact (by (with_reducible repeat (first | apply r1_ | apply r2_ | apply r3_)); exact HO_5.out)); (case aS => exact (below_size (by repeat (first | (with_reducible first | exact HB.out | apply b1_ | apply b2_ | apply b3_) | exact HB.out)))); (case aL => have := LMc16.out; omega); intro v132 w17 ho hb hg hat; rw [← Ny131.out] at ho; have n0_ := a0_ (hb); have n1_ := a0_ (ho); clear HB; clear HO_5; have HB := n0_; have HO133 := n1_; clear n0_ n1_; clear ho hb hg hat))
          go_roundg kj2
          case measure => have := HK1.out; have := HJ2.out; omega
          case rel => exact ⟨(y131), ((IntKind.u64.wrap (x6_1 + (IntKind.u64.wrap (rd l1 x7_1)))) / 4294967296), (wrap64 (x7_1 + 1)), (by first | rfl | (simp; done) | (simp [*]; done)), (by first | rfl | (simp; done) | (simp [*]; done)), H', ⟨by have := HK1.out; have := HJ2.out; omega⟩, ⟨by (with_reducible repeat (first | apply r1_ | apply r2_ | apply r3_)); exact HO133.out⟩, ⟨by repeat (first | (with_reducible first | exact HB.out | apply b1_ | apply b2_ | apply b3_) | exact HB.out)⟩⟩
         ·
          rw [if_neg c16] at H
          exact absurd H (by simp)
        ·
         rw [if_neg c15] at H
         exact absurd H (by simp)
       ·
        rw [if_neg c14] at H
        have c14b0 : decide (x7_1 < (l1.length : Int)) = false := d3_ c14
        clear c14
        by_cases c18 : x5_1.length < 35184372088832
        ·
         rw [if_pos c18] at H
         have LMc18 := a0_ c18
         clear c18
         obtain ⟨y134, hy134⟩ : ∃ y_ : List Int, y_ = (x5_1 ++ [(x6_1) % 4294967296]) := ⟨_, rfl⟩
         replace H : (spec_magAdd.l0 kj2 l0 l1 y134 (x6_1 / 4294967296) (wrap64 (x7_1 + 1))) = some r := by first | (rw [hy134]; with_reducible exact H) | (have H2_ := (o2_ _ _).symm.trans H; rw [hy134]; with_reducible exact H2_) | (have H2_ := (o2_ _ _).symm.trans H; with_reducible exact H2_) | with_reducible exact H | (rw [hy134]; exact H) | exact H
         have Ny134 := a0_ hy134
         clear hy134
         have H' := a0_ H
         clear H
         go_wp2_with (first | ((with_reducible refine gate_builtin (b := .append) (xs := #[.tmp 46, .tmp 49]) rfl ?_); (try (refine gate_guard (by rfl) ?_; dsimp only)); at_builtin; refine Kd.R_append (Kd.int .u32) (w0 := w) w.heap.size rfl (.tmp 46) (.tmp 49) 27 96 (.int .u32 0) 4 rfl Try.underlying27 info96 rfl (by decide) (by omega) u5 x5_1 ((x6_1) % 4294967296) [.int .u32 ((x6_1) % 4294967296)] (fun _ => True) (fun _ => False) rfl rfl ?aP (fun _ hk => hk.elim) ?aF ?aO ?aB ?aS ?aL ?_; (case aP => exact rfl); (case aB => exact (by repeat (first | (with_reducible first | exact HB.out | apply b1_ | apply b2_ | apply b3_) | exact HB.out))); (case aF => exact (fun _ _ => trivial)); (case aO => exact (by (with_reducible repeat (first | apply r1_ | apply r2_ | apply r3_)); exact HO_5.out)); (case aS => exact (below_size (by repeat (first | (with_reducible first | exact HB.out | apply b1_ | apply b2_ | apply b3_) | exact HB.out)))); (case aL => have := LMc18.out; omega); intro v135 w19 ho hb hg hat; rw [← Ny134.out] at ho; have n0_ := a0_ (hb); have n1_ := a0_ (ho); clear HB; clear HO_5; have HB := n0_; have HO136 := n1_; clear n0_ n1_; clear ho hb hg hat))
         go_roundg kj2
         case measure => have := HK1.out; have := HJ2.out; omega
         case rel => exact ⟨(y134), (x6_1 / 4294967296), (wrap64 (x7_1 + 1)), (by first | rfl | (simp; done) | (simp [*]; done)), (by first | rfl | (simp; done) | (simp [*]; done)), H', ⟨by have := HK1.out; have := HJ2.out; omega⟩, ⟨by (with_reducible repeat (first | apply r1_ | apply r2_ | apply r3_)); exact HO136.out⟩, ⟨by repeat (first | (with_reducible first | exact HB.out | apply b1_ | apply b2_ | apply b3_) | exact HB.out)⟩⟩
        ·
         rw [if_neg c18] at H
         exact absurd H (by simp)
     ·
      replace c6 := Bool.eq_false_iff.mpr c6
      subst c6
      have H1 : (some x5_1) = some r := by rw [if_neg (show ¬ (false = true) by decide)] at H; exact H
      clear H
      have H := H1
      clear H1
      obtain rfl := o1_ H
      go_wp2
      go_ret
      exact ⟨_, by first | rfl | (simp [e1_, e2_] <;> rfl) | (simp [*, e1_, e2_] <;> rfl), by (with_reducible repeat (first | apply r1_ | apply r2_ | apply r3_)); exact HO_5.out, by repeat (first | (with_reducible first | exact HB.out | apply b1_ | apply b2_ | apply b3_) | exact HB.out)⟩

/-! ### spec_magCmp: function 39 -/
def spec_magCmp.l0 : Nat → List Int → List Int → Int → Option (Int)
 | 0, _, _, _ => none
 | k + 1, x0, x1, x5 => if x5 ≥ 0 then (if 0 ≤ x5 then (if x5 < (x0.length : Int) then (if x5 < (x1.length : Int) then (if (rd x0 x5) < (rd x1 x5) then (some (-1)) else (if (rd x0 x5) > (rd x1 x5) then (some 1) else (spec_magCmp.l0 k x0 x1 (wrap64 (x5 - 1))))) else (none)) else (none)) else (none)) else (some 0)
def spec_magCmp.f (k : Nat) (l0 : List Int) (l1 : List Int) : Option (Int) := if (l0.length : Int) = (l1.length : Int) then (spec_magCmp.l0 k l0 l1 (wrap64 ((l0.length : Int) - 1))) else (if (l0.length : Int) < (l1.length : Int) then (some (-1)) else (some 1))
set_option maxHeartbeats 8000000 in
set_option maxRecDepth 100000 in
theorem spec_magCmp.calls (k : Nat) (A0 : Option Addr) (c0 : Nat) (l0 : List Int) (A1 : Option Addr) (c1 : Nat) (l1 : List Int) (r : Int) (w : World) (hr0 : Kd.C (Kd.int .u32) w A0 l0.length l0) (hc0 : l0.length ≤ c0) (hr1 : Kd.C (Kd.int .u32) w A1 l1.length l1) (hc1 : l1.length ≤ c1) (h : spec_magCmp.f k l0 l1 = some r) :
  Calls Try.prog 39 #[.slice A0 l0.length c0, .slice A1 l1.length c1] w fun e w' => e = .returned (.int .i64 r) ∧ Drawn0 w w' := by
 have HR0 := a0_ hr0
 have HC0 := a0_ hc0
 clear hr0 hc0
 have HR1 := a0_ hr1
 have HC1 := a0_ hc1
 clear hr1 hc1
 have H : (if (l0.length : Int) = (l1.length : Int) then (spec_magCmp.l0 k l0 l1 (wrap64 ((l0.length : Int) - 1))) else (if (l0.length : Int) < (l1.length : Int) then (some (-1)) else (some 1))) = some r := h
 clear h
 by_cases c3 : (l0.length : Int) = (l1.length : Int)
 ·
  rw [if_pos c3] at H
  have c3b0 : ((l0.length : Int) == (l1.length : Int)) = true := beq_iff_eq.mpr c3
  have c3b1 : ((l0.length : Int) != (l1.length : Int)) = false := bne_eq_false_iff_eq.mpr c3
  have c3b2 : (l0.length == l1.length) = true := by first | simpa using c3 | (simp at c3 ⊢; omega)
  clear c3
  have H' := a0_ H
  clear H
  go_enter Try.func39, Try.ntmps39
  go_wp2
  repeat (go_quiet (fail); try go_wp2)
  go_loopg [5] k (fun kq v5 w' => ∃ (x5_1 : Int), v5 = .int .i64 x5_1 ∧ Aside0 (spec_magCmp.l0 kq l0 l1 x5_1 = some r) ∧ Aside0 (kq ≤ k) ∧ Drawn0 w w')
  case atStart => exact ⟨(wrap64 ((l0.length : Int) - 1)), (by first | rfl | (simp; done) | (simp [*]; done)), H', ⟨Nat.le_refl _⟩, by repeat (first | exact Drawn0.refl _ | apply Drawn0.step)⟩
  case round =>
   clear H'
   try clear c1
   try clear p2
   try clear c3
   try clear c3b0
   try clear c3b1
   try clear c3b2
   obtain ⟨x5_1, rfl, HA, HK1, ⟨m1, rfl⟩⟩ := hrel
   cases gk with
   | zero => exact absurd HA.out (by simp [spec_magCmp.l0])
   | succ k1 =>
    have H := HA.out
    clear HA
    simp only [spec_magCmp.l0] at H
    by_cases c4 : x5_1 ≥ 0
    ·
     rw [if_pos c4] at H
     have c4b0 : decide (0 ≤ x5_1) = true := d2_ c4
     clear c4
     by_cases c5 : 0 ≤ x5_1
     ·
      rw [if_pos c5] at H
      have c5b0 : decide (0 ≤ x5_1) = true := d2_ c5
      clear c5
      by_cases c6 : x5_1 < (l0.length : Int)
      ·
       rw [if_pos c6] at H
       have c6b0 : decide (x5_1 < (l0.length : Int)) = true := d2_ c6
       clear c6
       by_cases c7 : x5_1 < (l1.length : Int)
       ·
        rw [if_pos c7] at H
        have c7b0 : decide (x5_1 < (l1.length : Int)) = true := d2_ c7
        clear c7
        by_cases c8 : (rd l0 x5_1) < (rd l1 x5_1)
        ·
         rw [if_pos c8] at H
         have c8b0 : decide ((rd l0 x5_1) < (rd l1 x5_1)) = true := d2_ c8
         clear c8
         obtain rfl := o1_ H
         have p137 : 0 ≤ (x5_1 : Int) := d1_ (by first | (with_reducible assumption) | assumption)
         have q137 : x5_1 < (l0.length : Int) := d1_ (by first | (with_reducible assumption) | assumption)
         obtain ⟨ad137, e137, hx137_0⟩ := Kd.at_int HR0.out x5_1 p137 q137
         cases e137
         replace p137 := eq_true p137
         replace q137 := eq_true q137
         have p138 : 0 ≤ (x5_1 : Int) := d1_ (by first | (with_reducible assumption) | assumption)
         have q138 : x5_1 < (l1.length : Int) := d1_ (by first | (with_reducible assumption) | assumption)
         obtain ⟨ad138, e138, hx138_0⟩ := Kd.at_int HR1.out x5_1 p138 q138
         cases e138
         replace p138 := eq_true p138
         replace q138 := eq_true q138
         go_wp2
         repeat (go_quiet (fail); try go_wp2)
         go_ret
         exact ⟨by first | rfl | (simp; done) | (simp [*]; done), by repeat (first | exact Drawn0.refl _ | apply Drawn0.step)⟩
        ·
         rw [if_neg c8] at H
         have c8b0 : decide ((rd l0 x5_1) < (rd l1 x5_1)) = false := d3_ c8
         clear c8
         by_cases c9 : (rd l0 x5_1) > (rd l1 x5_1)
         ·
          rw [if_pos c9] at H
          have c9b0 : decide ((rd l1 x5_1) < (rd l0 x5_1)) = true := d2_ c9
          clear c9
          obtain rfl := o1_ H
          have p137 : 0 ≤ (x5_1 : Int) := d1_ (by first | (with_reducible assumption) | assumption)
          have q137 : x5_1 < (l0.length : Int) := d1_ (by first | (with_reducible assumption) | assumption)
          obtain ⟨ad137, e137, hx137_0⟩ := Kd.at_int HR0.out x5_1 p137 q137
          cases e137
          replace p137 := eq_true p137
          replace q137 := eq_true q137
          have p138 : 0 ≤ (x5_1 : Int) := d1_ (by first | (with_reducible assumption) | assumption)
          have q138 : x5_1 < (l1.length : Int) := d1_ (by first | (with_reducible assumption) | assumption)
          obtain ⟨ad138, e138, hx138_0⟩ := Kd.at_int HR1.out x5_1 p138 q138
          cases e138
          replace p138 := eq_true p138
          replace q138 := eq_true q138
          have p139 : 0 ≤ (x5_1 : Int) := d1_ (by first | (with_reducible assumption) | assumption)
          have q139 : x5_1 < (l0.length : Int) := d1_ (by first | (with_reducible assumption) | assumption)
          obtain ⟨ad139, e139, hx139_0⟩ := Kd.at_int HR0.out x5_1 p139 q139
          obtain rfl : ad137 = ad139 := (by injection e139)
          replace p139 := eq_true p139
          replace q139 := eq_true q139
          have p140 : 0 ≤ (x5_1 : Int) := d1_ (by first | (with_reducible assumption) | assumption)
          have q140 : x5_1 < (l1.length : Int) := d1_ (by first | (with_reducible assumption) | assumption)
          obtain ⟨ad140, e140, hx140_0⟩ := Kd.at_int HR1.out x5_1 p140 q140
          obtain rfl : ad138 = ad140 := (by injection e140)
          replace p140 := eq_true p140
          replace q140 := eq_true q140
          go_wp2
          repeat (go_quiet (fail); try go_wp2)
          go_ret
          exact ⟨by first | rfl | (simp; done) | (simp [*]; done), by repeat (first | exact Drawn0.refl _ | apply Drawn0.step)⟩
         ·
          rw [if_neg c9] at H
          have c9b0 : decide ((rd l1 x5_1) < (rd l0 x5_1)) = false := d3_ c9
          clear c9
          have H' := a0_ H
          clear H
          have p137 : 0 ≤ (x5_1 : Int) := d1_ (by first | (with_reducible assumption) | assumption)
          have q137 : x5_1 < (l0.length : Int) := d1_ (by first | (with_reducible assumption) | assumption)
          obtain ⟨ad137, e137, hx137_0⟩ := Kd.at_int HR0.out x5_1 p137 q137
          cases e137
          replace p137 := eq_true p137
          replace q137 := eq_true q137
          have p138 : 0 ≤ (x5_1 : Int) := d1_ (by first | (with_reducible assumption) | assumption)
          have q138 : x5_1 < (l1.length : Int) := d1_ (by first | (with_reducible assumption) | assumption)
          obtain ⟨ad138, e138, hx138_0⟩ := Kd.at_int HR1.out x5_1 p138 q138
          cases e138
          replace p138 := eq_true p138
          replace q138 := eq_true q138
          have p139 : 0 ≤ (x5_1 : Int) := d1_ (by first | (with_reducible assumption) | assumption)
          have q139 : x5_1 < (l0.length : Int) := d1_ (by first | (with_reducible assumption) | assumption)
          obtain ⟨ad139, e139, hx139_0⟩ := Kd.at_int HR0.out x5_1 p139 q139
          obtain rfl : ad137 = ad139 := (by injection e139)
          replace p139 := eq_true p139
          replace q139 := eq_true q139
          have p140 : 0 ≤ (x5_1 : Int) := d1_ (by first | (with_reducible assumption) | assumption)
          have q140 : x5_1 < (l1.length : Int) := d1_ (by first | (with_reducible assumption) | assumption)
          obtain ⟨ad140, e140, hx140_0⟩ := Kd.at_int HR1.out x5_1 p140 q140
          obtain rfl : ad138 = ad140 := (by injection e140)
          replace p140 := eq_true p140
          replace q140 := eq_true q140
          go_wp2
          repeat (go_quiet (fail); try go_wp2)
          go_roundg k1
          case measure => have := HK1.out; omega
          case rel => exact ⟨(wrap64 (x5_1 - 1)), (by first | rfl | (simp; done) | (simp [*]; done)), H', ⟨by have := HK1.out; omega⟩, by repeat (first | exact Drawn0.refl _ | apply Drawn0.step)⟩
       ·
        rw [if_neg c7] at H
        exact absurd H (by simp)
      ·
       rw [if_neg c6] at H
       exact absurd H (by simp)
     ·
      rw [if_neg c5] at H
      exact absurd H (by simp)
    ·
     rw [if_neg c4] at H
     have c4b0 : decide (0 ≤ x5_1) = false := d3_ c4
     clear c4
     obtain rfl := o1_ H
     go_wp2
     repeat (go_quiet (fail); try go_wp2)
     go_ret
     exact ⟨by first | rfl | (simp; done) | (simp [*]; done), by repeat (first | exact Drawn0.refl _ | apply Drawn0.step)⟩
 ·
  rw [if_neg c3] at H
  have c3b0 : ((l0.length : Int) == (l1.length : Int)) = false := beq_eq_false_iff_ne.mpr c3
  have c3b1 : ((l0.length : Int) != (l1.length : Int)) = true := bne_iff_ne.mpr c3
  have c3b2 : (l0.length == l1.length) = false := by first | simpa using c3 | (simp at c3 ⊢; omega)
  by_cases c10 : (l0.length : Int) < (l1.length : Int)
  ·
   rw [if_pos c10] at H
   have c10b0 : decide ((l0.length : Int) < (l1.length : Int)) = true := d2_ c10
   have c10b1 : decide (l0.length < l1.length) = true := d2_ (Int.ofNat_lt.mp c10)
   clear c10
   obtain rfl := o1_ H
   go_enter Try.func39, Try.ntmps39
   go_wp2
   repeat (go_quiet (fail); try go_wp2)
   go_ret
   exact ⟨by first | rfl | (simp; done) | (simp [*]; done), by repeat (first | exact Drawn0.refl _ | apply Drawn0.step)⟩
  ·
   rw [if_neg c10] at H
   have c10b0 : decide ((l0.length : Int) < (l1.length : Int)) = false := d3_ c10
   have c10b1 : decide (l0.length < l1.length) = false := d3_ (fun h => c10 (Int.ofNat_lt.mpr h))
   clear c10
   obtain rfl := o1_ H
   go_enter Try.func39, Try.ntmps39
   go_wp2
   repeat (go_quiet (fail); try go_wp2)
   go_ret
   exact ⟨by first | rfl | (simp; done) | (simp [*]; done), by repeat (first | exact Drawn0.refl _ | apply Drawn0.step)⟩

/-! ### spec_magSub: function 40 -/
def spec_magSub.l0 : Nat → List Int → List Int → Int → Int → Int → Option (List Int)
 | 0, _, _, _, _, _ => none
 | k + 1, x1, x5, x6, x13, x14 => if x14 < x13 then (if 0 ≤ x14 then (if x14 < (x5.length : Int) then (if x14 < (x1.length : Int) then (if (wrap64 ((wrap64 ((wrap64 (rd x5 x14)) - x6)) - (wrap64 (rd x1 x14)))) < 0 then (spec_magSub.l0 k x1 (x5.set (x14 : Int).toNat ((wrap64 ((wrap64 ((wrap64 ((wrap64 (rd x5 x14)) - x6)) - (wrap64 (rd x1 x14)))) + 4294967296)) % 4294967296)) 1 x13 (wrap64 (x14 + 1))) else (spec_magSub.l0 k x1 (x5.set (x14 : Int).toNat ((wrap64 ((wrap64 ((wrap64 (rd x5 x14)) - x6)) - (wrap64 (rd x1 x14)))) % 4294967296)) 0 x13 (wrap64 (x14 + 1)))) else (if (wrap64 ((wrap64 (rd x5 x14)) - x6)) < 0 then (spec_magSub.l0 k x1 (x5.set (x14 : Int).toNat ((wrap64 ((wrap64 ((wrap64 (rd x5 x14)) - x6)) + 4294967296)) % 4294967296)) 1 x13 (wrap64 (x14 + 1))) else (spec_magSub.l0 k x1 (x5.set (x14 : Int).toNat ((wrap64 ((wrap64 (rd x5 x14)) - x6)) % 4294967296)) 0 x13 (wrap64 (x14 + 1))))) else (none)) else (none)) else ((spec_trim.f k x5).bind fun t147 => (some t147))
def spec_magSub.f (k : Nat) (l0 : List Int) (l1 : List Int) : Option (List Int) := (some (([] : List Int) : List Int)).bind fun y141 => (if y141.length + l0.length < 35184372088832 then ((some (y141 ++ l0 : List Int)).bind fun y144 => (spec_magSub.l0 k l1 y144 0 (y144.length : Int) 0)) else (none))
set_option maxHeartbeats 8000000 in
set_option maxRecDepth 100000 in
theorem spec_magSub.calls (k : Nat) (A0 : Option Addr) (c0 : Nat) (l0 : List Int) (A1 : Option Addr) (c1 : Nat) (l1 : List Int) (r : List Int) (w : World) (hr0 : Kd.C (Kd.int .u32) w A0 l0.length l0) (hc0 : l0.length ≤ c0) (hr1 : Kd.C (Kd.int .u32) w A1 l1.length l1) (hc1 : l1.length ≤ c1) (h : spec_magSub.f k l0 l1 = some r) :
  Calls Try.prog 40 #[.slice A0 l0.length c0, .slice A1 l1.length c1] w fun e w' => ∃ v0_ : Value, e = .returned (v0_) ∧ Kd.V (Kd.int .u32) 96 w' w.heap.size (fun k_ => (w.heap.size ≤ k_)) v0_ r ∧ Below w.heap.size w w' := by
 have HR0 := a0_ hr0
 have HC0 := a0_ hc0
 clear hr0 hc0
 have HR1 := a0_ hr1
 have HC1 := a0_ hc1
 clear hr1 hc1
 have HB := a0_ (Below.refl w.heap.size w)
 have H : ((some (([] : List Int) : List Int)).bind fun y141 => (if y141.length + l0.length < 35184372088832 then ((some (y141 ++ l0 : List Int)).bind fun y144 => (spec_magSub.l0 k l1 y144 0 (y144.length : Int) 0)) else (none))) = some r := h
 clear h
 obtain ⟨y141, hy141⟩ : ∃ y_ : List Int, y_ = (([] : List Int)) := ⟨_, rfl⟩
 replace H : (if y141.length + l0.length < 35184372088832 then ((some (y141 ++ l0 : List Int)).bind fun y144 => (spec_magSub.l0 k l1 y144 0 (y144.length : Int) 0)) else (none)) = some r := by first | (rw [hy141]; with_reducible exact H) | (have H2_ := (o2_ _ _).symm.trans H; rw [hy141]; with_reducible exact H2_) | (have H2_ := (o2_ _ _).symm.trans H; with_reducible exact H2_) | with_reducible exact H | (rw [hy141]; exact H) | exact H
 have Ny141 := a0_ hy141
 clear hy141
 by_cases c3 : y141.length + l0.length < 35184372088832
 ·
  rw [if_pos c3] at H
  have LMc3 := a0_ c3
  clear c3
  obtain ⟨y144, hy144⟩ : ∃ y_ : List Int, y_ = (y141 ++ l0) := ⟨_, rfl⟩
  replace H : (spec_magSub.l0 k l1 y144 0 (y144.length : Int) 0) = some r := by first | (rw [hy144]; with_reducible exact H) | (have H2_ := (o2_ _ _).symm.trans H; rw [hy144]; with_reducible exact H2_) | (have H2_ := (o2_ _ _).symm.trans H; with_reducible exact H2_) | with_reducible exact H | (rw [hy144]; exact H) | exact H
  have Ny144 := a0_ hy144
  clear hy144
  have H' := a0_ H
  clear H
  go_enter Try.func40, Try.ntmps40
  go_wp2_with (first | ((with_reducible refine gate_dst (N := 9) rfl ?_); refine Kd.R_lit (Kd.int .u32) _ 96 ?hg (N := 9) ?hd (xs := ([] : List Int)) (inner := []) (ok := fun _ => True) (okp := fun _ => True) ?hr ?hp (fun _ hk => hk) trivial (Below.refl _ _) (Nat.le_refl _) (by simp) ?_; (case hd => rfl); (case hg => rfl); (case hr => first | (go_simp; done) | (go_simp; rfl)); (case hp => exact (Reps.none _ _)); intro v142 w4 ho5 hb hg_ hnew_; clear hg_ hnew_; (first | rw [← Ny141.out] at ho5 | (simp only [Int.reduceToNat] at ho5; rw [← Ny141.out] at ho5)); have n0_ := a0_ (Kd.R_lower (Kd.R_newM (M := fun k_ => (w.heap.size ≤ k_)) ho5 (below_size (by repeat (first | (with_reducible first | exact HB.out | apply b1_ | apply b2_ | apply b3_) | exact HB.out))) (fun k_ h_ => h_)) (below_size (by repeat (first | (with_reducible first | exact HB.out | apply b1_ | apply b2_ | apply b3_) | exact HB.out)))); have n1_ := a0_ (below_step (by repeat (first | (with_reducible first | exact HB.out | apply b1_ | apply b2_ | apply b3_) | exact HB.out)) hb); clear HB; have HO143 := n0_; have HB := n1_; clear n0_ n1_; clear hb ho5) | ((with_reducible refine gate_builtin (b := .append) (xs := #[.tmp 9, .tmp 10]) rfl ?_); at_builtin; refine Kd.R_append_rows (Kd.int .u32) (w0 := w) w.heap.size rfl (.tmp 9) (.tmp 10) 27 96 (.int .u32 0) 4 rfl Try.underlying27 info96 rfl (by decide) (by omega) v142 y141 l0 _ _ _ (fun k_ => (w.heap.size ≤ k_)) (fun _ => False) rfl rfl ?aO ?aR (fun _ _ h => h) (fun _ h => h.elim) ?aF ?aB ?aS ?aL ?_; (case aR => repeat (first | exact (Kd.C_below HR0.out HB.out) | (with_reducible refine Kd.C_alloc ?_ _) | (with_reducible refine Kd.C_drewN ?_ _) | (with_reducible refine Kd.C_drew ?_))); (case aB => exact (by repeat (first | (with_reducible first | exact HB.out | apply b1_ | apply b2_ | apply b3_) | exact HB.out))); (case aF => exact (fun k_ hk => (Nat.le_trans (below_size (by repeat (first | (with_reducible first | exact HB.out | apply b1_ | apply b2_ | apply b3_) | exact HB.out))) hk))); (case aO => exact (by (with_reducible repeat (first | apply r1_ | apply r2_ | apply r3_)); exact Kd.R_mono HO143.out (fun _ hk => hk.1))); (case aS => exact (below_size (by repeat (first | (with_reducible first | exact HB.out | apply b1_ | apply b2_ | apply b3_) | exact HB.out)))); (case aL => have := LMc3.out; omega); intro v145 w6 ho hb hg hat; rw [← Ny144.out] at ho; have n0_ := a0_ (hb); have n1_ := a0_ (ho); clear HB; clear HO143; have HB := n0_; have HO146 := n1_; clear n0_ n1_; clear ho hb hg hat; obtain ⟨Ao7, co7, eo7⟩ := Kd.R_slice HO146.out; subst eo7))
  go_loopg [6, 14] k (fun kq v6 v14 w' => ∃ (x5_1 : List Int) (x6_1 : Int) (x14_1 : Int), v6 = .int .i64 x6_1 ∧ v14 = .int .i64 x14_1 ∧ Aside0 (spec_magSub.l0 kq l1 x5_1 x6_1 (y144.length : Int) x14_1 = some r) ∧ Aside0 (kq ≤ k) ∧ Aside0 (Kd.R (Kd.int .u32) 96 w' w.heap.size (fun k_ => (w.heap.size ≤ k_)) (.slice Ao7 y144.length co7) x5_1) ∧ Aside0 (Below w.heap.size w w'))
  case atStart => exact ⟨(y144), (0), (0), (by first | rfl | (simp; done) | (simp [*]; done)), (by first | rfl | (simp; done) | (simp [*]; done)), H', ⟨Nat.le_refl _⟩, ⟨by (with_reducible repeat (first | apply r1_ | apply r2_ | apply r3_)); exact HO146.out⟩, ⟨by repeat (first | (with_reducible first | exact HB.out | apply b1_ | apply b2_ | apply b3_) | exact HB.out)⟩⟩
  case round =>
   clear H'
   try clear c1
   try clear p2
   try clear c3
   try clear c4
   obtain ⟨x5_1, x6_1, x14_1, rfl, rfl, HA, HK1, HO_5, HB⟩ := hrel
   have hl5_1 := (Kd.R_reads' HO_5.out).1
   rw [hl5_1] at HO_5
   (try simp only [hl5_1])
   cases gk with
   | zero => exact absurd HA.out (by simp [spec_magSub.l0])
   | succ k1 =>
    have H := HA.out
    clear HA
    simp only [spec_magSub.l0] at H
    by_cases c8 : x14_1 < (y144.length : Int)
    ·
     rw [if_pos c8] at H
     have c8b0 : decide (x14_1 < (y144.length : Int)) = true := d2_ c8
     have c8bz : decide (x14_1 < (x5_1.length : Int)) = true := hl5_1 ▸ c8b0
     clear c8
     by_cases c9 : 0 ≤ x14_1
     ·
      rw [if_pos c9] at H
      have c9b0 : decide (0 ≤ x14_1) = true := d2_ c9
      clear c9
      by_cases c10 : x14_1 < (x5_1.length : Int)
      ·
       rw [if_pos c10] at H
       have c10b0 : decide (x14_1 < (x5_1.length : Int)) = true := d2_ c10
       clear c10
       by_cases c11 : x14_1 < (l1.length : Int)
       ·
        rw [if_pos c11] at H
        have c11b0 : decide (x14_1 < (l1.length : Int)) = true := d2_ c11
        clear c11
        by_cases c12 : (wrap64 ((wrap64 ((wrap64 (rd x5_1 x14_1)) - x6_1)) - (wrap64 (rd l1 x14_1)))) < 0
        ·
         rw [if_pos c12] at H
         have c12b0 : decide ((wrap64 ((wrap64 ((wrap64 (rd x5_1 x14_1)) - x6_1)) - (wrap64 (rd l1 x14_1)))) < 0) = true := d2_ c12
         clear c12
         obtain ⟨y152, hy152⟩ : ∃ y_ : List Int, y_ = (x5_1.set (x14_1 : Int).toNat ((wrap64 ((wrap64 ((wrap64 ((wrap64 (rd x5_1 x14_1)) - x6_1)) - (wrap64 (rd l1 x14_1)))) + 4294967296)) % 4294967296)) := ⟨_, rfl⟩
         replace H : (spec_magSub.l0 k1 l1 y152 1 (y144.length : Int) (wrap64 (x14_1 + 1))) = some r := by first | (rw [hy152]; with_reducible exact H) | (have H2_ := (o2_ _ _).symm.trans H; rw [hy152]; with_reducible exact H2_) | (have H2_ := (o2_ _ _).symm.trans H; with_reducible exact H2_) | with_reducible exact H | (rw [hy152]; exact H) | exact H
         have Ny152 := a0_ hy152
         clear hy152
         have H' := a0_ H
         clear H
         have p150 : 0 ≤ (x14_1 : Int) := d1_ (by first | (with_reducible assumption) | assumption)
         have q150 : x14_1 < (x5_1.length : Int) := d1_ (by first | (with_reducible assumption) | assumption)
         obtain ⟨ad150, e150, hx150_0⟩ := Kd.at_int (Kd.R_reads' HO_5.out).2.2 x14_1 p150 q150
         cases e150
         replace p150 := eq_true p150
         replace q150 := eq_true q150
         have p151 : 0 ≤ (x14_1 : Int) := d1_ (by first | (with_reducible assumption) | assumption)
         have q151 : x14_1 < (l1.length : Int) := d1_ (by first | (with_reducible assumption) | assumption)
         obtain ⟨ad151, e151, hx151_0⟩ := Kd.at_int HR1.out x14_1 p151 q151
         cases e151
         replace hx151_0 := (HB.out.cell (World.block_lt_of_cell? w _ hx151_0)).trans hx151_0
         replace p151 := eq_true p151
         replace q151 := eq_true q151
         have p13 : 0 ≤ (x14_1 : Int) := d1_ (by first | (with_reducible assumption) | assumption)
         have q13 : (x14_1 : Int) < ((x5_1.length : Int) : Int) := d1_ (by first | (with_reducible assumption) | assumption)
         obtain ⟨go13, co13, eo13, gb13, gl13, cl13, HG13⟩ := Kd.R_form HO_5.out (by omega)
         (first | cases eo13 | (injection eo13 with ea_ en_ ec_; (first | subst ea_ | (injection ea_ with ea_; subst ea_)); subst ec_; clear en_))
         have GB13 := a0_ gb13
         have GG13 := a0_ HG13
         clear gb13 gl13 HG13
         (first | simp only [add_plain] at hx150_0 | skip)
         obtain ⟨hx13_0, hf13_0⟩ := Kd.R_celln 0 HO_5.out (x14_1 : Int) p13 q13
         replace p13 := eq_true p13
         replace q13 := eq_true q13
         have HP14 := Kd.R_putg HO_5.out (x14_1 : Int) ((wrap64 ((wrap64 ((wrap64 ((wrap64 (rd x5_1 x14_1)) - x6_1)) - (wrap64 (rd l1 x14_1)))) + 4294967296)) % 4294967296)
         go_wp2_with (first | ((with_reducible refine gate_store (t := 96) (p := 43) rfl ?_); refine store_event (t := 96) (p := 43) (v := ?vo_w15) (w1 := (wr.setCell ⟨go13, (x14_1 : Int).toNat, none⟩ (.int .u32 ((wrap64 ((wrap64 ((wrap64 ((wrap64 (rd x5_1 x14_1)) - x6_1)) - (wrap64 (rd l1 x14_1)))) + 4294967296)) % 4294967296)))) ?hg ?ho ?hn ?hr ?_; (case ho => rfl); (case hg => rfl); (case hn => rfl); (case hr => first | (go_simp; done) | (go_simp; rfl)); intro w15 hw; have hg : wr.grownBy w15 (some go13) := (by rw [hw]; exact HP14.2); have hp_ : Kd.R (Kd.int .u32) 96 w15 w.heap.size (fun k_ => (w.heap.size ≤ k_)) (.slice (some ⟨go13, 0, none⟩) x5_1.length co7) y152 := (by rw [hw, Ny152.out]; exact HP14.1); clear HP14; have n0_ := a0_ (hp_); have n1_ := a0_ ((by rw [hw]; exact b4_ (HB.out) GB13.out : Below w.heap.size w w15)); clear HO_5; clear HB; have HO_5 := n0_; have HB := n1_; clear n0_ n1_; clear hg hw hp_))
         (try simp only [← hl5_1])
         go_roundg k1
         case measure => have := HK1.out; omega
         case rel => exact ⟨(y152), (1), (wrap64 (x14_1 + 1)), (by first | rfl | (simp; done) | (simp [*]; done)), (by first | rfl | (simp; done) | (simp [*]; done)), H', ⟨by have := HK1.out; omega⟩, ⟨by (try simp only [hl5_1]); (with_reducible repeat (first | apply r1_ | apply r2_ | apply r3_)); exact HO_5.out⟩, ⟨by repeat (first | (with_reducible first | exact HB.out | apply b1_ | apply b2_ | apply b3_) | exact HB.out)⟩⟩
        ·
         rw [if_neg c12] at H
         have c12b0 : decide ((wrap64 ((wrap64 ((wrap64 (rd x5_1 x14_1)) - x6_1)) - (wrap64 (rd l1 x14_1)))) < 0) = false := d3_ c12
         clear c12
         obtain ⟨y153, hy153⟩ : ∃ y_ : List Int, y_ = (x5_1.set (x14_1 : Int).toNat ((wrap64 ((wrap64 ((wrap64 (rd x5_1 x14_1)) - x6_1)) - (wrap64 (rd l1 x14_1)))) % 4294967296)) := ⟨_, rfl⟩
         replace H : (spec_magSub.l0 k1 l1 y153 0 (y144.length : Int) (wrap64 (x14_1 + 1))) = some r := by first | (rw [hy153]; with_reducible exact H) | (have H2_ := (o2_ _ _).symm.trans H; rw [hy153]; with_reducible exact H2_) | (have H2_ := (o2_ _ _).symm.trans H; with_reducible exact H2_) | with_reducible exact H | (rw [hy153]; exact H) | exact H
         have Ny153 := a0_ hy153
         clear hy153
         have H' := a0_ H
         clear H
         have p150 : 0 ≤ (x14_1 : Int) := d1_ (by first | (with_reducible assumption) | assumption)
         have q150 : x14_1 < (x5_1.length : Int) := d1_ (by first | (with_reducible assumption) | assumption)
         obtain ⟨ad150, e150, hx150_0⟩ := Kd.at_int (Kd.R_reads' HO_5.out).2.2 x14_1 p150 q150
         cases e150
         replace p150 := eq_true p150
         replace q150 := eq_true q150
         have p151 : 0 ≤ (x14_1 : Int) := d1_ (by first | (with_reducible assumption) | assumption)
         have q151 : x14_1 < (l1.length : Int) := d1_ (by first | (with_reducible assumption) | assumption)
         obtain ⟨ad151, e151, hx151_0⟩ := Kd.at_int HR1.out x14_1 p151 q151
         cases e151
         replace hx151_0 := (HB.out.cell (World.block_lt_of_cell? w _ hx151_0)).trans hx151_0
         replace p151 := eq_true p151
         replace q151 := eq_true q151
         have p16 : 0 ≤ (x14_1 : Int) := d1_ (by first | (with_reducible assumption) | assumption)
         have q16 : (x14_1 : Int) < ((x5_1.length : Int) : Int) := d1_ (by first | (with_reducible assumption) | assumption)
         obtain ⟨go16, co16, eo16, gb16, gl16, cl16, HG16⟩ := Kd.R_form HO_5.out (by omega)
         (first | cases eo16 | (injection eo16 with ea_ en_ ec_; (first | subst ea_ | (injection ea_ with ea_; subst ea_)); subst ec_; clear en_))
         have GB16 := a0_ gb16
         have GG16 := a0_ HG16
         clear gb16 gl16 HG16
         (first | simp only [add_plain] at hx150_0 | skip)
         obtain ⟨hx16_0, hf16_0⟩ := Kd.R_celln 0 HO_5.out (x14_1 : Int) p16 q16
         replace p16 := eq_true p16
         replace q16 := eq_true q16
         have HP17 := Kd.R_putg HO_5.out (x14_1 : Int) ((wrap64 ((wrap64 ((wrap64 (rd x5_1 x14_1)) - x6_1)) - (wrap64 (rd l1 x14_1)))) % 4294967296)
         go_wp2_with (first | ((with_reducible refine gate_store (t := 96) (p := 43) rfl ?_); refine store_event (t := 96) (p := 43) (v := ?vo_w18) (w1 := (wr.setCell ⟨go16, (x14_1 : Int).toNat, none⟩ (.int .u32 ((wrap64 ((wrap64 ((wrap64 (rd x5_1 x14_1)) - x6_1)) - (wrap64 (rd l1 x14_1)))) % 4294967296)))) ?hg ?ho ?hn ?hr ?_; (case ho => rfl); (case hg => rfl); (case hn => rfl); (case hr => first | (go_simp; done) | (go_simp; rfl)); intro w18 hw; have hg : wr.grownBy w18 (some go16) := (by rw [hw]; exact HP17.2); have hp_ : Kd.R (Kd.int .u32) 96 w18 w.heap.size (fun k_ => (w.heap.size ≤ k_)) (.slice (some ⟨go16, 0, none⟩) x5_1.length co7) y153 := (by rw [hw, Ny153.out]; exact HP17.1); clear HP17; have n0_ := a0_ (hp_); have n1_ := a0_ ((by rw [hw]; exact b4_ (HB.out) GB16.out : Below w.heap.size w w18)); clear HO_5; clear HB; have HO_5 := n0_; have HB := n1_; clear n0_ n1_; clear hg hw hp_))
         (try simp only [← hl5_1])
         go_roundg k1
         case measure => have := HK1.out; omega
         case rel => exact ⟨(y153), (0), (wrap64 (x14_1 + 1)), (by first | rfl | (simp; done) | (simp [*]; done)), (by first | rfl | (simp; done) | (simp [*]; done)), H', ⟨by have := HK1.out; omega⟩, ⟨by (try simp only [hl5_1]); (with_reducible repeat (first | apply r1_ | apply r2_ | apply r3_)); exact HO_5.out⟩, ⟨by repeat (first | (with_reducible first | exact HB.out | apply b1_ | apply b2_ | apply b3_) | exact HB.out)⟩⟩
       ·
        rw [if_neg c11] at H
        have c11b0 : decide (x14_1 < (l1.length : Int)) = false := d3_ c11
        clear c11
        by_cases c19 : (wrap64 ((wrap64 (rd x5_1 x14_1)) - x6_1)) < 0
        ·
         rw [if_pos c19] at H
         have c19b0 : decide ((wrap64 ((wrap64 (rd x5_1 x14_1)) - x6_1)) < 0) = true := d2_ c19
         clear c19
         obtain ⟨y154, hy154⟩ : ∃ y_ : List Int, y_ = (x5_1.set (x14_1 : Int).toNat ((wrap64 ((wrap64 ((wrap64 (rd x5_1 x14_1)) - x6_1)) + 4294967296)) % 4294967296)) := ⟨_, rfl⟩
         replace H : (spec_magSub.l0 k1 l1 y154 1 (y144.length : Int) (wrap64 (x14_1 + 1))) = some r := by first | (rw [hy154]; with_reducible exact H) | (have H2_ := (o2_ _ _).symm.trans H; rw [hy154]; with_reducible exact H2_) | (have H2_ := (o2_ _ _).symm.trans H; with_reducible exact H2_) | with_reducible exact H | (rw [hy154]; exact H) | exact H
         have Ny154 := a0_ hy154
         clear hy154
         have H' := a0_ H
         clear H
         have p150 : 0 ≤ (x14_1 : Int) := d1_ (by first | (with_reducible assumption) | assumption)
         have q150 : x14_1 < (x5_1.length : Int) := d1_ (by first | (with_reducible assumption) | assumption)
         obtain ⟨ad150, e150, hx150_0⟩ := Kd.at_int (Kd.R_reads' HO_5.out).2.2 x14_1 p150 q150
         cases e150
         replace p150 := eq_true p150
         replace q150 := eq_true q150
         have p20 : 0 ≤ (x14_1 : Int) := d1_ (by first | (with_reducible assumption) | assumption)
         have q20 : (x14_1 : Int) < ((x5_1.length : Int) : Int) := d1_ (by first | (with_reducible assumption) | assumption)
         obtain ⟨go20, co20, eo20, gb20, gl20, cl20, HG20⟩ := Kd.R_form HO_5.out (by omega)
         (first | cases eo20 | (injection eo20 with ea_ en_ ec_; (first | subst ea_ | (injection ea_ with ea_; subst ea_)); subst ec_; clear en_))
         have GB20 := a0_ gb20
         have GG20 := a0_ HG20
         clear gb20 gl20 HG20
         (first | simp only [add_plain] at hx150_0 | skip)
         obtain ⟨hx20_0, hf20_0⟩ := Kd.R_celln 0 HO_5.out (x14_1 : Int) p20 q20
         replace p20 := eq_true p20
         replace q20 := eq_true q20
         have HP21 := Kd.R_putg HO_5.out (x14_1 : Int) ((wrap64 ((wrap64 ((wrap64 (rd x5_1 x14_1)) - x6_1)) + 4294967296)) % 4294967296)
         go_wp2_with (first | ((with_reducible refine gate_store (t := 96) (p := 43) rfl ?_); refine store_event (t := 96) (p := 43) (v := ?vo_w22) (w1 := (wr.setCell ⟨go20, (x14_1 : Int).toNat, none⟩ (.int .u32 ((wrap64 ((wrap64 ((wrap64 (rd x5_1 x14_1)) - x6_1)) + 4294967296)) % 4294967296)))) ?hg ?ho ?hn ?hr ?_; (case ho => rfl); (case hg => rfl); (case hn => rfl); (case hr => first | (go_simp; done) | (go_simp; rfl)); intro w22 hw; have hg : wr.grownBy w22 (some go20) := (by rw [hw]; exact HP21.2); have hp_ : Kd.R (Kd.int .u32) 96 w22 w.heap.size (fun k_ => (w.heap.size ≤ k_)) (.slice (some ⟨go20, 0, none⟩) x5_1.length co7) y154 := (by rw [hw, Ny154.out]; exact HP21.1); clear HP21; have n0_ := a0_ (hp_); have n1_ := a0_ ((by rw [hw]; exact b4_ (HB.out) GB20.out : Below w.heap.size w w22)); clear HO_5; clear HB; have HO_5 := n0_; have HB := n1_; clear n0_ n1_; clear hg hw hp_))
         (try simp only [← hl5_1])
         go_roundg k1
         case measure => have := HK1.out; omega
         case rel => exact ⟨(y154), (1), (wrap64 (x14_1 + 1)), (by first | rfl | (simp; done) | (simp [*]; done)), (by first | rfl | (simp; done) | (simp [*]; done)), H', ⟨by have := HK1.out; omega⟩, ⟨by (try simp only [hl5_1]); (with_reducible repeat (first | apply r1_ | apply r2_ | apply r3_)); exact HO_5.out⟩, ⟨by repeat (first | (with_reducible first | exact HB.out | apply b1_ | apply b2_ | apply b3_) | exact HB.out)⟩⟩
        ·
         rw [if_neg c19] at H
         have c19b0 : decide ((wrap64 ((wrap64 (rd x5_1 x14_1)) - x6_1)) < 0) = false := d3_ c19
         clear c19
         obtain ⟨y155, hy155⟩ : ∃ y_ : List Int, y_ = (x5_1.set (x14_1 : Int).toNat ((wrap64 ((wrap64 (rd x5_1 x14_1)) - x6_1)) % 4294967296)) := ⟨_, rfl⟩
         replace H : (spec_magSub.l0 k1 l1 y155 0 (y144.length : Int) (wrap64 (x14_1 + 1))) = some r := by first | (rw [hy155]; with_reducible exact H) | (have H2_ := (o2_ _ _).symm.trans H; rw [hy155]; with_reducible exact H2_) | (have H2_ := (o2_ _ _).symm.trans H; with_reducible exact H2_) | with_reducible exact H | (rw [hy155]; exact H) | exact H
         have Ny155 := a0_ hy155
         clear hy155
         have H' := a0_ H
         clear H
         have p150 : 0 ≤ (x14_1 : Int) := d1_ (by first | (with_reducible assumption) | assumption)
         have q150 : x14_1 < (x5_1.length : Int) := d1_ (by first | (with_reducible assumption) | assumption)
         obtain ⟨ad150, e150, hx150_0⟩ := Kd.at_int (Kd.R_reads' HO_5.out).2.2 x14_1 p150 q150
         cases e150
         replace p150 := eq_true p150
         replace q150 := eq_true q150
         have p23 : 0 ≤ (x14_1 : Int) := d1_ (by first | (with_reducible assumption) | assumption)
         have q23 : (x14_1 : Int) < ((x5_1.length : Int) : Int) := d1_ (by first | (with_reducible assumption) | assumption)
         obtain ⟨go23, co23, eo23, gb23, gl23, cl23, HG23⟩ := Kd.R_form HO_5.out (by omega)
         (first | cases eo23 | (injection eo23 with ea_ en_ ec_; (first | subst ea_ | (injection ea_ with ea_; subst ea_)); subst ec_; clear en_))
         have GB23 := a0_ gb23
         have GG23 := a0_ HG23
         clear gb23 gl23 HG23
         (first | simp only [add_plain] at hx150_0 | skip)
         obtain ⟨hx23_0, hf23_0⟩ := Kd.R_celln 0 HO_5.out (x14_1 : Int) p23 q23
         replace p23 := eq_true p23
         replace q23 := eq_true q23
         have HP24 := Kd.R_putg HO_5.out (x14_1 : Int) ((wrap64 ((wrap64 (rd x5_1 x14_1)) - x6_1)) % 4294967296)
         go_wp2_with (first | ((with_reducible refine gate_store (t := 96) (p := 43) rfl ?_); refine store_event (t := 96) (p := 43) (v := ?vo_w25) (w1 := (wr.setCell ⟨go23, (x14_1 : Int).toNat, none⟩ (.int .u32 ((wrap64 ((wrap64 (rd x5_1 x14_1)) - x6_1)) % 4294967296)))) ?hg ?ho ?hn ?hr ?_; (case ho => rfl); (case hg => rfl); (case hn => rfl); (case hr => first | (go_simp; done) | (go_simp; rfl)); intro w25 hw; have hg : wr.grownBy w25 (some go23) := (by rw [hw]; exact HP24.2); have hp_ : Kd.R (Kd.int .u32) 96 w25 w.heap.size (fun k_ => (w.heap.size ≤ k_)) (.slice (some ⟨go23, 0, none⟩) x5_1.length co7) y155 := (by rw [hw, Ny155.out]; exact HP24.1); clear HP24; have n0_ := a0_ (hp_); have n1_ := a0_ ((by rw [hw]; exact b4_ (HB.out) GB23.out : Below w.heap.size w w25)); clear HO_5; clear HB; have HO_5 := n0_; have HB := n1_; clear n0_ n1_; clear hg hw hp_))
         (try simp only [← hl5_1])
         go_roundg k1
         case measure => have := HK1.out; omega
         case rel => exact ⟨(y155), (0), (wrap64 (x14_1 + 1)), (by first | rfl | (simp; done) | (simp [*]; done)), (by first | rfl | (simp; done) | (simp [*]; done)), H', ⟨by have := HK1.out; omega⟩, ⟨by (try simp only [hl5_1]); (with_reducible repeat (first | apply r1_ | apply r2_ | apply r3_)); exact HO_5.out⟩, ⟨by repeat (first | (with_reducible first | exact HB.out | apply b1_ | apply b2_ | apply b3_) | exact HB.out)⟩⟩
      ·
       rw [if_neg c10] at H
       exact absurd H (by simp)
     ·
      rw [if_neg c9] at H
      exact absurd H (by simp)
    ·
     rw [if_neg c8] at H
     have c8b0 : decide (x14_1 < (y144.length : Int)) = false := d3_ c8
     have c8bz : decide (x14_1 < (x5_1.length : Int)) = false := hl5_1 ▸ c8b0
     clear c8
     replace H := Option.bind_eq_some_iff.mp H
     obtain ⟨t147, A260, H⟩ := H
     replace H : (some t147) = some r := H
     have A26 := a0_ A260
     clear A260
     obtain rfl := o1_ H
     go_wp2_with (first | ((with_reducible refine gate_callee (f := 73) rfl ?_); refine goesL_ (some 46) rfl rfl Try.func73 (by kernel_rfl) rfl #[.slice Ao7 x5_1.length co7] rfl (by (try simp only [List.map_toArray, List.map_cons, List.map_nil]); first | done | rfl | (simp only [List.length_drop, List.length_take]; rfl)) ?_; (with_reducible refine (spec_trim.calls k1 (fun k_ => some k_ = (.slice Ao7 x5_1.length co7 : Value).ownBlock) _ _ x5_1 t147 _ ?side1 A26.out).mono ?_); (case side1 => exact Kd.R_V (Kd.R_tight rfl (HO_5.out))); rintro e w27 ⟨v148, rfl, ho0, hb⟩; refine ⟨_, rfl, ?_⟩; have n0_ := a0_ (Kd.R_below (by (with_reducible repeat (first | apply r1_ | apply r2_ | apply r3_)); exact HO_5.out) hb); have n1_ := a0_ (Kd.V_lower (v4_ (ok' := fun k_ => (w.heap.size ≤ k_)) ho0 (fun k_ hk_ => Or.elim hk_ (fun hs_ => ((HO_5.out).1 k_ hs_.symm)) (fun hn_ => (Nat.le_trans (below_size (by repeat (first | (with_reducible first | exact HB.out | apply b1_ | apply b2_ | apply b3_) | exact HB.out))) hn_)))) (below_size (by repeat (first | (with_reducible first | exact HB.out | apply b1_ | apply b2_ | apply b3_) | exact HB.out)))); have n2_ := a0_ (below_step (by repeat (first | (with_reducible first | exact HB.out | apply b1_ | apply b2_ | apply b3_) | exact HB.out)) hb); clear HO_5; clear HB; have HO_5 := n0_; have HO149 := n1_; have HB := n2_; clear n0_ n1_ n2_; (try clear hb); (try clear hb2); (try clear hk); (try clear hi); (try clear ho0)))
     go_ret
     exact ⟨_, by first | rfl | (simp [e1_, e2_] <;> rfl) | (simp [*, e1_, e2_] <;> rfl), by (with_reducible repeat (first | apply v1_ | apply v2_ | apply v3_)); exact HO149.out, by repeat (first | (with_reducible first | exact HB.out | apply b1_ | apply b2_ | apply b3_) | exact HB.out)⟩
 ·
  rw [if_neg c3] at H
  exact absurd H (by simp)


end Go.Proofs.Ytiiicmfobljnaaa.V
