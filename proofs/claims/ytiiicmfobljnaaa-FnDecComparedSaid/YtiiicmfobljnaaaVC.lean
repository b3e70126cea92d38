import Derived.Test.YtiiicmfobljnaaaV2
namespace Go.Proofs.Ytiiicmfobljnaaa.V
open Go.RowKit Go.Proofs.YtiiicmfobljnaaaW.PrintWords Go.Proofs.YtiiicmfobljnaaaW.PrintLast Go.Proofs.YtiiicmfobljnaaaW.PrintMore
attribute [local go_sem] max2_int min2_int max_two min_two max_three min_three max_four min_four
set_option linter.unusedVariables false
set_option linter.unusedSimpArgs false

/-! ### laws_sameWords: function 8 -/
def laws_sameWords.l0 : Nat → List Int → List Int → Int → Int → Option (Bool)
 | 0, _, _, _, _ => none
 | k + 1, x0, x1, x12, x13 => if x13 < x12 then (if 0 ≤ x13 then (if x13 < (x0.length : Int) then (if x13 < (x1.length : Int) then (if (rd x0 x13) = (rd x1 x13) then (laws_sameWords.l0 k x0 x1 x12 (wrap64 (x13 + 1))) else (some false)) else (none)) else (none)) else (none)) else (some true)
def laws_sameWords.f (k : Nat) (l0 : List Int) (l1 : List Int) : Option (Bool) := if (l0.length : Int) = (l1.length : Int) then (laws_sameWords.l0 k l0 l1 (l0.length : Int) 0) else (some false)
set_option maxHeartbeats 8000000 in
set_option maxRecDepth 100000 in
theorem laws_sameWords.calls (k : Nat) (A0 : Option Addr) (c0 : Nat) (l0 : List Int) (A1 : Option Addr) (c1 : Nat) (l1 : List Int) (r : Bool) (w : World) (hr0 : Kd.C (Kd.int .u64) w A0 l0.length l0) (hc0 : l0.length ≤ c0) (hr1 : Kd.C (Kd.int .u64) w A1 l1.length l1) (hc1 : l1.length ≤ c1) (h : laws_sameWords.f k l0 l1 = some r) :
  Calls Try.prog 8 #[.slice A0 l0.length c0, .slice A1 l1.length c1] w fun e w' => e = .returned (.bool r) ∧ Drawn0 w w' := by
 have HR0 := a0_ hr0
 have HC0 := a0_ hc0
 clear hr0 hc0
 have HR1 := a0_ hr1
 have HC1 := a0_ hc1
 clear hr1 hc1
 have H : (if (l0.length : Int) = (l1.length : Int) then (laws_sameWords.l0 k l0 l1 (l0.length : Int) 0) else (some false)) = some r := h
 clear h
 by_cases c3 : (l0.length : Int) = (l1.length : Int)
 ·
  rw [if_pos c3] at H
  have c3b0 : ((l0.length : Int) == (l1.length : Int)) = true := beq_iff_eq.mpr c3
  have c3b1 : ((l0.length : Int) != (l1.length : Int)) = false := bne_eq_false_iff_eq.mpr c3
  have c3b2 : (l0.length == l1.length) = true := by first | simpa using c3 | (simp at c3 ⊢; omega)
  clear c3
  have H' := a0_ H
  clear H
  go_enter Try.func8, Try.ntmps8
  go_wp2
  repeat (go_quiet (fail); try go_wp2)
  go_loopg [13] k (fun kq v13 w' => ∃ (x13_1 : Int), v13 = .int .i64 x13_1 ∧ Aside0 (laws_sameWords.l0 kq l0 l1 (l0.length : Int) x13_1 = some r) ∧ Aside0 (kq ≤ k) ∧ Drawn0 w w')
  case atStart => exact ⟨(0), (by first | rfl | (simp; done) | (simp [*]; done)), H', ⟨Nat.le_refl _⟩, by repeat (first | exact Drawn0.refl _ | apply Drawn0.step)⟩
  case round =>
   clear H'
   try clear c1
   try clear p2
   try clear c3
   try clear c3b0
   try clear c3b1
   try clear c3b2
   obtain ⟨x13_1, rfl, HA, HK1, ⟨m1, rfl⟩⟩ := hrel
   cases gk with
   | zero => exact absurd HA.out (by simp [laws_sameWords.l0])
   | succ k1 =>
    have H := HA.out
    clear HA
    simp only [laws_sameWords.l0] at H
    by_cases c4 : x13_1 < (l0.length : Int)
    ·
     rw [if_pos c4] at H
     have c4b0 : decide (x13_1 < (l0.length : Int)) = true := d2_ c4
     clear c4
     by_cases c5 : 0 ≤ x13_1
     ·
      rw [if_pos c5] at H
      have c5b0 : decide (0 ≤ x13_1) = true := d2_ c5
      clear c5
      by_cases c6 : x13_1 < (l0.length : Int)
      ·
       rw [if_pos c6] at H
       have c6b0 : decide (x13_1 < (l0.length : Int)) = true := d2_ c6
       clear c6
       by_cases c7 : x13_1 < (l1.length : Int)
       ·
        rw [if_pos c7] at H
        have c7b0 : decide (x13_1 < (l1.length : Int)) = true := d2_ c7
        clear c7
        by_cases c8 : (rd l0 x13_1) = (rd l1 x13_1)
        ·
         rw [if_pos c8] at H
         have c8b0 : ((rd l0 x13_1) == (rd l1 x13_1)) = true := beq_iff_eq.mpr c8
         have c8b1 : ((rd l0 x13_1) != (rd l1 x13_1)) = false := bne_eq_false_iff_eq.mpr c8
         clear c8
         have H' := a0_ H
         clear H
         have p104 : 0 ≤ (x13_1 : Int) := d1_ (by first | (with_reducible assumption) | assumption)
         have q104 : x13_1 < (l0.length : Int) := d1_ (by first | (with_reducible assumption) | assumption)
         obtain ⟨ad104, e104, hx104_0⟩ := Kd.at_int HR0.out x13_1 p104 q104
         cases e104
         replace p104 := eq_true p104
         replace q104 := eq_true q104
         have p105 : 0 ≤ (x13_1 : Int) := d1_ (by first | (with_reducible assumption) | assumption)
         have q105 : x13_1 < (l1.length : Int) := d1_ (by first | (with_reducible assumption) | assumption)
         obtain ⟨ad105, e105, hx105_0⟩ := Kd.at_int HR1.out x13_1 p105 q105
         cases e105
         replace p105 := eq_true p105
         replace q105 := eq_true q105
         go_wp2
         repeat (go_quiet (fail); try go_wp2)
         go_roundg k1
         case measure => have := HK1.out; omega
         case rel => exact ⟨(wrap64 (x13_1 + 1)), (by first | rfl | (simp; done) | (simp [*]; done)), H', ⟨by have := HK1.out; omega⟩, by repeat (first | exact Drawn0.refl _ | apply Drawn0.step)⟩
        ·
         rw [if_neg c8] at H
         have c8b0 : ((rd l0 x13_1) == (rd l1 x13_1)) = false := beq_eq_false_iff_ne.mpr c8
         have c8b1 : ((rd l0 x13_1) != (rd l1 x13_1)) = true := bne_iff_ne.mpr c8
         obtain rfl := o1_ H
         have p104 : 0 ≤ (x13_1 : Int) := d1_ (by first | (with_reducible assumption) | assumption)
         have q104 : x13_1 < (l0.length : Int) := d1_ (by first | (with_reducible assumption) | assumption)
         obtain ⟨ad104, e104, hx104_0⟩ := Kd.at_int HR0.out x13_1 p104 q104
         cases e104
         replace p104 := eq_true p104
         replace q104 := eq_true q104
         have p105 : 0 ≤ (x13_1 : Int) := d1_ (by first | (with_reducible assumption) | assumption)
         have q105 : x13_1 < (l1.length : Int) := d1_ (by first | (with_reducible assumption) | assumption)
         obtain ⟨ad105, e105, hx105_0⟩ := Kd.at_int HR1.out x13_1 p105 q105
         cases e105
         replace p105 := eq_true p105
         replace q105 := eq_true q105
         go_wp2
         repeat (go_quiet (fail); try go_wp2)
         go_ret
         exact ⟨by first | rfl | (simp; done) | (simp [*]; done), by repeat (first | exact Drawn0.refl _ | apply Drawn0.step)⟩
       ·
        rw [if_neg c7] at H
        exact absurd H (by simp)
      ·
       rw [if_neg c6] at H
       exact absurd H (by simp)
     ·
      rw [if_neg c5] at H
      exact absurd H (by simp)
    ·
     rw [if_neg c4] at H
     have c4b0 : decide (x13_1 < (l0.length : Int)) = false := d3_ c4
     clear c4
     obtain rfl := o1_ H
     go_wp2
     repeat (go_quiet (fail); try go_wp2)
     go_ret
     exact ⟨by first | rfl | (simp; done) | (simp [*]; done), by repeat (first | exact Drawn0.refl _ | apply Drawn0.step)⟩
 ·
  rw [if_neg c3] at H
  have c3b0 : ((l0.length : Int) == (l1.length : Int)) = false := beq_eq_false_iff_ne.mpr c3
  have c3b1 : ((l0.length : Int) != (l1.length : Int)) = true := bne_iff_ne.mpr c3
  have c3b2 : (l0.length == l1.length) = false := by first | simpa using c3 | (simp at c3 ⊢; omega)
  obtain rfl := o1_ H
  go_enter Try.func8, Try.ntmps8
  go_wp2
  repeat (go_quiet (fail); try go_wp2)
  go_ret
  exact ⟨by first | rfl | (simp; done) | (simp [*]; done), by repeat (first | exact Drawn0.refl _ | apply Drawn0.step)⟩

/-! ### laws_wordsOf: function 27 -/
def laws_wordsOf.j0 : Nat → Int → Int → Bool → Option (Int × Bool)
 | 0, _, _, _ => none
 | k + 1, x0, x4, x5 => if x5 = true then (some (1, true)) else (if x4 = 128 then (some (wrap64 (Int.tdiv x0 64), true)) else (if x4 = 256 then (some (wrap64 (Int.tdiv x0 64), true)) else (some (0, false))))
def laws_wordsOf.f (k : Nat) (a0 : Int) : Option (Int × Bool) := if a0 = 32 then (laws_wordsOf.j0 k a0 a0 (a0 == 32)) else (laws_wordsOf.j0 k a0 a0 (a0 == 64))
set_option maxHeartbeats 8000000 in
set_option maxRecDepth 100000 in
theorem laws_wordsOf.calls (k : Nat) (a0 : Int) (r1 : Int) (r2 : Bool) (w : World) (h : laws_wordsOf.f k a0 = some (r1, r2)) :
  Calls Try.prog 27 #[.int .i64 a0] w fun e w' => e = .returned (.tuple #[.int .i64 r1, .bool r2]) ∧ Drawn0 w w' := by
 have H : (if a0 = 32 then (laws_wordsOf.j0 k a0 a0 (a0 == 32)) else (laws_wordsOf.j0 k a0 a0 (a0 == 64))) = some (r1, r2) := h
 clear h
 have HC2 := a0_ H
 clear H
 go_enter Try.func27, Try.ntmps27
 go_upto_if 5 with (fail)
 go_cut [5] (fun v5 wc => ∃ (kq : Nat) (x5_1 : Bool), v5 = .bool x5_1 ∧ Aside0 (laws_wordsOf.j0 kq a0 a0 x5_1 = some (r1, r2)) ∧ Aside0 (kq ≤ k) ∧ Drawn0 w wc)
 case first =>
  have H := HC2.out
  clear HC2
  by_cases c3 : a0 = 32
  ·
   rw [if_pos c3] at H
   have c3b0 : (a0 == 32) = true := beq_iff_eq.mpr c3
   have c3b1 : (a0 != 32) = false := bne_eq_false_iff_eq.mpr c3
   clear c3
   (first | rw [c3b0] | (simp only [i64_w, i32_w]; rw [c3b0]) | skip)
   have H' := a0_ H
   clear H
   go_wp2
   go_meet
   case rel => exact ⟨_, ((a0 == 32)), (by first | rfl | (simp; done) | (simp [*]; done)), H', ⟨by first | omega | exact Nat.le_refl _⟩, by repeat (first | exact Drawn0.refl _ | apply Drawn0.step)⟩
  ·
   rw [if_neg c3] at H
   have c3b0 : (a0 == 32) = false := beq_eq_false_iff_ne.mpr c3
   have c3b1 : (a0 != 32) = true := bne_iff_ne.mpr c3
   (first | rw [c3b0] | (simp only [i64_w, i32_w]; rw [c3b0]) | skip)
   have H' := a0_ H
   clear H
   go_wp2
   go_meet
   case rel => exact ⟨_, ((a0 == 64)), (by first | rfl | (simp; done) | (simp [*]; done)), H', ⟨by first | omega | exact Nat.le_refl _⟩, by repeat (first | exact Drawn0.refl _ | apply Drawn0.step)⟩
 case rest =>
  clear HC2
  try clear c2
  try clear p2
  try clear c3
  try clear c3b0
  try clear c3b1
  obtain ⟨kq, x5_1, rfl, HA, HJ1, ⟨mc1, rfl⟩⟩ := hcut
  cases kq with
  | zero => exact absurd HA.out (by simp [laws_wordsOf.j0])
  | succ kj1 =>
   have H := HA.out
   clear HA
   simp only [laws_wordsOf.j0] at H
   by_cases c4 : x5_1 = true
   ·
    subst c4
    have H1 : (some (1, true)) = some (r1, r2) := by rw [if_pos rfl] at H; exact H
    clear H
    have H := H1
    clear H1
    simp only [Option.some.injEq, Prod.mk.injEq] at H
    obtain ⟨rfl, rfl⟩ := H
    go_wp2
    go_ret2
    exact ⟨by first | rfl | (simp; done) | (simp [*]; done), by repeat (first | exact Drawn0.refl _ | apply Drawn0.step)⟩
   ·
    replace c4 := Bool.eq_false_iff.mpr c4
    subst c4
    have H1 : (if a0 = 128 then (some (wrap64 (Int.tdiv a0 64), true)) else (if a0 = 256 then (some (wrap64 (Int.tdiv a0 64), true)) else (some (0, false)))) = some (r1, r2) := by rw [if_neg (show ¬ (false = true) by decide)] at H; exact H
    clear H
    have H := H1
    clear H1
    by_cases c5 : a0 = 128
    ·
     rw [if_pos c5] at H
     have c5b0 : (a0 == 128) = true := beq_iff_eq.mpr c5
     have c5b1 : (a0 != 128) = false := bne_eq_false_iff_eq.mpr c5
     clear c5
     simp only [Option.some.injEq, Prod.mk.injEq] at H
     obtain ⟨rfl, rfl⟩ := H
     go_wp2
     go_ret2
     exact ⟨by first | rfl | (simp; done) | (simp [*]; done), by repeat (first | exact Drawn0.refl _ | apply Drawn0.step)⟩
    ·
     rw [if_neg c5] at H
     have c5b0 : (a0 == 128) = false := beq_eq_false_iff_ne.mpr c5
     have c5b1 : (a0 != 128) = true := bne_iff_ne.mpr c5
     by_cases c6 : a0 = 256
     ·
      rw [if_pos c6] at H
      have c6b0 : (a0 == 256) = true := beq_iff_eq.mpr c6
      have c6b1 : (a0 != 256) = false := bne_eq_false_iff_eq.mpr c6
      clear c6
      simp only [Option.some.injEq, Prod.mk.injEq] at H
      obtain ⟨rfl, rfl⟩ := H
      go_wp2
      go_ret2
      exact ⟨by first | rfl | (simp; done) | (simp [*]; done), by repeat (first | exact Drawn0.refl _ | apply Drawn0.step)⟩
     ·
      rw [if_neg c6] at H
      have c6b0 : (a0 == 256) = false := beq_eq_false_iff_ne.mpr c6
      have c6b1 : (a0 != 256) = true := bne_iff_ne.mpr c6
      simp only [Option.some.injEq, Prod.mk.injEq] at H
      obtain ⟨rfl, rfl⟩ := H
      go_wp2
      go_ret2
      exact ⟨by first | rfl | (simp; done) | (simp [*]; done), by repeat (first | exact Drawn0.refl _ | apply Drawn0.step)⟩

/-! ### spec_FromWords: function 28 -/
mutual
def spec_FromWords.l0 : Nat → List Int → List Int → List Int → Int → Int → Option (Bool × List Int)
 | 0, _, _, _, _, _ => none
 | k + 1, x0, x3, x7, x8, x9 => if x9 < x8 then (if 0 ≤ x9 then (if x9 < (x7.length : Int) then ((some (([(rd x7 x9) % 4294967296, ((rd x7 x9) / 4294967296) % 4294967296] : List Int) : List Int)).bind fun y203 => (if x3.length + y203.length < 35184372088832 then (spec_FromWords.l0 k x0 (x3 ++ y203) x7 x8 (wrap64 (x9 + 1))) else (none))) else (none)) else (none)) else ((spec_wide.f k false x3).bind fun bt209 => (if (x0.length : Int) > 0 then (if 0 ≤ (wrap64 ((x0.length : Int) - 1)) then (if (wrap64 ((x0.length : Int) - 1)) < (x0.length : Int) then (spec_FromWords.j1 k x0 (((rd x0 (wrap64 ((x0.length : Int) - 1))) / 9223372036854775808) == 1) bt209.1 bt209.2) else (none)) else (none)) else (spec_FromWords.j1 k x0 false bt209.1 bt209.2)))
def spec_FromWords.j1 : Nat → List Int → Bool → Bool → List Int → Option (Bool × List Int)
 | 0, _, _, _, _ => none
 | k + 1, x0, x36, x214000, x214001 => if x36 = true then ((spec_Two.f k (wrap64 (64 * (x0.length : Int)))).bind fun bt215 => ((spec_WideSub.f k x214000 x214001 bt215.1 bt215.2).bind fun bt219 => (some (bt219.1, bt219.2)))) else (some (x214000, x214001))
end
def spec_FromWords.f (k : Nat) (l0 : List Int) : Option (Bool × List Int) := spec_FromWords.l0 k l0 ([] : List Int) l0 (l0.length : Int) 0
set_option maxHeartbeats 8000000 in
set_option maxRecDepth 100000 in
theorem spec_FromWords.calls (k : Nat) (A0 : Option Addr) (c0 : Nat) (l0 : List Int) (r1 : Bool) (r2 : List Int) (w : World) (hr0 : Kd.C (Kd.int .u64) w A0 l0.length l0) (hc0 : l0.length ≤ c0) (h : spec_FromWords.f k l0 = some (r1, r2)) :
  Calls Try.prog 28 #[.slice A0 l0.length c0] w fun e w' => ∃ v1_ : Value, e = .returned (.agg #[.bool r1, v1_]) ∧ Kd.V (Kd.int .u32) 96 w' w.heap.size (fun k_ => (w.heap.size ≤ k_)) v1_ r2 ∧ Below w.heap.size w w' := by
 have hu29 := Try.underlying29
 have HR0 := a0_ hr0
 have HC0 := a0_ hc0
 clear hr0 hc0
 have HB := a0_ (Below.refl w.heap.size w)
 have H : (spec_FromWords.l0 k l0 ([] : List Int) l0 (l0.length : Int) 0) = some (r1, r2) := h
 clear h
 have H' := a0_ H
 clear H
 go_enter Try.func28, Try.ntmps28
 go_wp2_with (first | ((with_reducible refine gate_dst (N := 2) rfl ?_); (try (refine gate_guard (by rfl) ?_; dsimp only)); refine box_event ?hg (N := 2) ?hd (cs := #[.bool false, .slice none 0 0]) (t := 29) ?hr ?_; (case hd => rfl); (case hg => rfl); (case hr => first | (go_simp; done) | (go_simp; rfl)); intro gb201 hg w2 hbox hb; have n0_ := a0_ (below_step (by repeat (first | (with_reducible first | exact HB.out | apply b1_ | apply b2_ | apply b3_) | exact HB.out)) hb); have n1_ := a0_ (hbox); have n2_ := a0_ ((by rw [hg]; exact (below_size (by repeat (first | (with_reducible first | exact HB.out | apply b1_ | apply b2_ | apply b3_) | exact HB.out))) : w.heap.size ≤ gb201)); have n3_ := a0_ ((by rw [hg]; exact (below_size (by repeat (first | (with_reducible first | exact HB.out | apply b1_ | apply b2_ | apply b3_) | exact HB.out))) : w.heap.size ≤ gb201)); clear HB; have HB := n0_; have BK201 := n1_; have GW201 := n2_; have GE201 := n3_; clear n0_ n1_ n2_ n3_; clear hb hbox hg))
 go_loopg [3, 9] k (fun kq v3 v9 w' => ∃ (x3_1 : List Int) (x9_1 : Int), v9 = .int .i64 x9_1 ∧ Aside0 (spec_FromWords.l0 kq l0 x3_1 l0 (l0.length : Int) x9_1 = some (r1, r2)) ∧ Aside0 (kq ≤ k) ∧ Aside0 (Kd.R (Kd.int .u32) 96 w' w.heap.size (fun k_ => (w.heap.size ≤ k_)) v3 x3_1) ∧ Aside0 (w'.heap[gb201]? = some (.cells #[.bool false, (.slice none 0 0)] 29 (0, 0))) ∧ Aside0 (Below w.heap.size w w'))
 case atStart => exact ⟨(([] : List Int)), (0), (by first | rfl | (simp; done) | (simp [*]; done)), H', ⟨Nat.le_refl _⟩, ⟨by first | exact Kd.R_nil _ _ _ _ _ | exact Kd.N_nil _ _ _ _ _ | exact Kd.V_nil _ _ _ _ _ | exact Kd.Q_nil _ _ _ _ _ | exact Kd.S_nil _ _ _ _ _⟩, ⟨by (with_reducible repeat (first | refine k1_ ?_ _ | refine k2_ ?_ | refine k3_ ?_ _)); exact BK201.out⟩, ⟨by repeat (first | (with_reducible first | exact HB.out | apply b1_ | apply b2_ | apply b3_ | refine b4_ ?_ GE201.out) | exact HB.out)⟩⟩
 case round =>
  clear H'
  try clear c2
  try clear p2
  obtain ⟨x3_1, x9_1, rfl, HA, HK1, HO_3, BK201, HB⟩ := hrel
  cases gk with
  | zero => exact absurd HA.out (by simp [spec_FromWords.l0])
  | succ k1 =>
   have H := HA.out
   clear HA
   simp only [spec_FromWords.l0] at H
   by_cases c3 : x9_1 < (l0.length : Int)
   ·
    rw [if_pos c3] at H
    have c3b0 : decide (x9_1 < (l0.length : Int)) = true := d2_ c3
    clear c3
    by_cases c4 : 0 ≤ x9_1
    ·
     rw [if_pos c4] at H
     have c4b0 : decide (0 ≤ x9_1) = true := d2_ c4
     clear c4
     by_cases c5 : x9_1 < (l0.length : Int)
     ·
      rw [if_pos c5] at H
      have c5b0 : decide (x9_1 < (l0.length : Int)) = true := d2_ c5
      clear c5
      obtain ⟨y203, hy203⟩ : ∃ y_ : List Int, y_ = (([(rd l0 x9_1) % 4294967296, ((rd l0 x9_1) / 4294967296) % 4294967296] : List Int)) := ⟨_, rfl⟩
      replace H : (if x3_1.length + y203.length < 35184372088832 then (spec_FromWords.l0 k1 l0 (x3_1 ++ y203) l0 (l0.length : Int) (wrap64 (x9_1 + 1))) else (none)) = some (r1, r2) := by first | (rw [hy203]; with_reducible exact H) | (have H2_ := (o2_ _ _).symm.trans H; rw [hy203]; with_reducible exact H2_) | (have H2_ := (o2_ _ _).symm.trans H; with_reducible exact H2_) | with_reducible exact H | (rw [hy203]; exact H) | exact H
      have Ny203 := a0_ hy203
      clear hy203
      by_cases c6 : x3_1.length + y203.length < 35184372088832
      ·
       rw [if_pos c6] at H
       have LMc6 := a0_ c6
       clear c6
       obtain ⟨y206, hy206⟩ : ∃ y_ : List Int, y_ = (x3_1 ++ y203) := ⟨_, rfl⟩
       replace H : (spec_FromWords.l0 k1 l0 y206 l0 (l0.length : Int) (wrap64 (x9_1 + 1))) = some (r1, r2) := by first | (rw [hy206]; with_reducible exact H) | (have H2_ := (o2_ _ _).symm.trans H; rw [hy206]; with_reducible exact H2_) | (have H2_ := (o2_ _ _).symm.trans H; with_reducible exact H2_) | with_reducible exact H | (rw [hy206]; exact H) | exact H
       have Ny206 := a0_ hy206
       clear hy206
       have H' := a0_ H
       clear H
       have p202 : 0 ≤ (x9_1 : Int) := d1_ (by first | (with_reducible assumption) | assumption)
       have q202 : x9_1 < (l0.length : Int) := d1_ (by first | (with_reducible assumption) | assumption)
       obtain ⟨ad202, e202, hx202_0⟩ := Kd.at_int HR0.out x9_1 p202 q202
       cases e202
       replace hx202_0 := (HB.out.cell (World.block_lt_of_cell? w _ hx202_0)).trans hx202_0
       replace p202 := eq_true p202
       replace q202 := eq_true q202
       go_wp2_with (first | ((with_reducible refine gate_dst (N := 19) rfl ?_); (try (refine gate_guard (by rfl) ?_; dsimp only)); refine Kd.R_lit (Kd.int .u32) _ 96 ?hg (N := 19) ?hd (xs := ([(rd l0 x9_1) % 4294967296, ((rd l0 x9_1) / 4294967296) % 4294967296] : List Int)) (inner := [.int .u32 ((rd l0 x9_1) % 4294967296), .int .u32 (((rd l0 x9_1) / 4294967296) % 4294967296)]) (ok := fun _ => True) (okp := fun _ => True) ?hr ?hp (fun _ hk => hk) trivial (Below.refl _ _) (Nat.le_refl _) (by simp) ?_; (case hd => rfl); (case hg => rfl); (case hr => first | (go_simp; done) | (go_simp; rfl)); (case hp => exact (Reps.one (show Kd.M (Kd.int .u32) _ _ _ ((rd l0 x9_1) % 4294967296) [.int .u32 ((rd l0 x9_1) % 4294967296)] from rfl) (Reps.one (show Kd.M (Kd.int .u32) _ _ _ (((rd l0 x9_1) / 4294967296) % 4294967296) [.int .u32 (((rd l0 x9_1) / 4294967296) % 4294967296)] from rfl) (Reps.none _ _)))); intro v204 w7 ho8 hb hg_ hnew_; clear hg_ hnew_; (first | rw [← Ny203.out] at ho8 | (simp only [Int.reduceToNat] at ho8; rw [← Ny203.out] at ho8)); have n0_ := a0_ (Kd.R_elder' (by (with_reducible repeat (first | apply r1_ | apply r2_ | apply r3_)); exact HO_3.out) (Kd.R_base ho8) hb); have n1_ := a0_ (Kd.R_lower (Kd.R_new' (Kd.R_newM (M := fun k_ => (w.heap.size ≤ k_)) ho8 (below_size (by repeat (first | (with_reducible first | exact HB.out | apply b1_ | apply b2_ | apply b3_ | refine b4_ ?_ GE201.out) | exact HB.out))) (fun k_ h_ => h_)) (Kd.R_lt (by (with_reducible repeat (first | apply r1_ | apply r2_ | apply r3_)); exact HO_3.out))) (below_size (by repeat (first | (with_reducible first | exact HB.out | apply b1_ | apply b2_ | apply b3_ | refine b4_ ?_ GE201.out) | exact HB.out)))); have n2_ := a0_ (blk_below (g := gb201) (o := .cells #[.bool false, .slice none 0 0] 29 (0, 0)) (by (with_reducible repeat (first | refine k1_ ?_ _ | refine k2_ ?_ | refine k3_ ?_ _)); exact BK201.out) hb); have n3_ := a0_ (below_step (by repeat (first | (with_reducible first | exact HB.out | apply b1_ | apply b2_ | apply b3_ | refine b4_ ?_ GE201.out) | exact HB.out)) hb); clear HO_3; clear BK201; clear HB; have HO_3 := n0_; have HO205 := n1_; have BK201 := n2_; have HB := n3_; clear n0_ n1_ n2_ n3_; clear hb ho8; obtain ⟨Ao10, co10, eo10⟩ := Kd.R_slice HO205.out; subst eo10) | ((with_reducible refine gate_builtin (b := .append) (xs := #[.tmp 13, .tmp 19]) rfl ?_); (try (refine gate_guard (by rfl) ?_; dsimp only)); at_builtin; refine Kd.R_append_rows (Kd.int .u32) (w0 := w) w.heap.size rfl (.tmp 13) (.tmp 19) 27 96 (.int .u32 0) 4 rfl Try.underlying27 info96 rfl (by decide) (by omega) u3 x3_1 y203 _ _ _ (fun k_ => (w.heap.size ≤ k_) ∧ some k_ ≠ (.slice Ao10 y203.length co10 : Value).ownBlock) (fun _ => False) rfl rfl ?aO ?aR (fun _ _ h => h) (fun _ h => h.elim) ?aF ?aB ?aS ?aL ?_; (case aR => repeat (first | exact (Kd.R_reads' HO205.out).2.2 | (with_reducible refine Kd.C_alloc ?_ _) | (with_reducible refine Kd.C_drewN ?_ _) | (with_reducible refine Kd.C_drew ?_))); (case aB => exact (by repeat (first | (with_reducible first | exact HB.out | apply b1_ | apply b2_ | apply b3_ | refine b4_ ?_ GE201.out) | exact HB.out))); (case aF => exact (fun k_ hk => ⟨(Nat.le_trans (below_size (by repeat (first | (with_reducible first | exact HB.out | apply b1_ | apply b2_ | apply b3_ | refine b4_ ?_ GE201.out) | exact HB.out))) hk), Kd.fresh' (Kd.R_lt (by (with_reducible repeat (first | apply r1_ | apply r2_ | apply r3_)); exact HO205.out)) k_ hk⟩)); (case aO => exact (by (with_reducible repeat (first | apply r1_ | apply r2_ | apply r3_)); exact HO_3.out)); (case aS => exact (below_size (by repeat (first | (with_reducible first | exact HB.out | apply b1_ | apply b2_ | apply b3_ | refine b4_ ?_ GE201.out) | exact HB.out)))); (case aL => have := LMc6.out; omega); intro v207 w9 ho hb hg hat; rw [← Ny206.out] at ho; have n0_ := a0_ (blk_grown (g := gb201) (o := .cells #[.bool false, .slice none 0 0] 29 (0, 0)) (by (with_reducible repeat (first | refine k1_ ?_ _ | refine k2_ ?_ | refine k3_ ?_ _)); exact BK201.out) hg (Kd.R_ne HO_3.out BK201.out (by decide))); have n1_ := a0_ (Kd.R_after (ok := (fun k_ => (w.heap.size ≤ k_))) (by (with_reducible repeat (first | apply r1_ | apply r2_ | apply r3_)); exact Kd.R_mono HO205.out (fun _ hk => ⟨hk.1.1, hk.2⟩)) hg hat); have n2_ := a0_ (hb); have n3_ := a0_ (ho); clear BK201; clear HO205; clear HB; clear HO_3; have BK201 := n0_; have HO205 := n1_; have HB := n2_; have HO208 := n3_; clear n0_ n1_ n2_ n3_; clear ho hb hg hat))
       go_roundg k1
       case measure => have := HK1.out; omega
       case rel => exact ⟨(y206), (wrap64 (x9_1 + 1)), (by first | rfl | (simp; done) | (simp [*]; done)), H', ⟨by have := HK1.out; omega⟩, ⟨by (with_reducible repeat (first | apply r1_ | apply r2_ | apply r3_)); exact Kd.R_mono HO208.out (fun _ hk => hk.1)⟩, ⟨by (with_reducible repeat (first | refine k1_ ?_ _ | refine k2_ ?_ | refine k3_ ?_ _)); exact BK201.out⟩, ⟨by repeat (first | (with_reducible first | exact HB.out | apply b1_ | apply b2_ | apply b3_ | refine b4_ ?_ GE201.out) | exact HB.out)⟩⟩
      ·
       rw [if_neg c6] at H
       exact absurd H (by simp)
     ·
      rw [if_neg c5] at H
      exact absurd H (by simp)
    ·
     rw [if_neg c4] at H
     exact absurd H (by simp)
   ·
    rw [if_neg c3] at H
    have c3b0 : decide (x9_1 < (l0.length : Int)) = false := d3_ c3
    clear c3
    replace H := Option.bind_eq_some_iff.mp H
    obtain ⟨⟨t209, t210⟩, A110, H⟩ := H
    replace H : (if (l0.length : Int) > 0 then (if 0 ≤ (wrap64 ((l0.length : Int) - 1)) then (if (wrap64 ((l0.length : Int) - 1)) < (l0.length : Int) then (spec_FromWords.j1 k1 l0 (((rd l0 (wrap64 ((l0.length : Int) - 1))) / 9223372036854775808) == 1) t209 t210) else (none)) else (none)) else (spec_FromWords.j1 k1 l0 false t209 t210)) = some (r1, r2) := H
    have A11 := a0_ A110
    clear A110
    have HC12 := a0_ H
    clear H
    obtain ⟨Ao13, co13, eo13⟩ := Kd.R_slice HO_3.out
    subst eo13
    go_upto_region 8 with (first | ((with_reducible refine gate_callee (f := 30) rfl ?_); refine goesL_ (some 23) rfl rfl Try.func30 (by kernel_rfl) rfl #[.bool false, .slice Ao13 x3_1.length co13] rfl (by (try simp only [List.map_toArray, List.map_cons, List.map_nil]); first | done | rfl | (simp only [List.length_drop, List.length_take]; rfl)) ?_; (with_reducible refine (spec_wide.calls k1 false (fun k_ => some k_ = (.slice Ao13 x3_1.length co13 : Value).ownBlock) _ _ x3_1 t209 t210 _ ?side1 A11.out).mono ?_); (case side1 => exact Kd.R_V (Kd.R_tight rfl (Kd.R_types (HO_3.out) BK201.out (by decide)))); rintro e w14 ⟨v211, rfl, ho0, hb⟩; refine ⟨_, rfl, ?_⟩; have n0_ := a0_ (Kd.R_below (by (with_reducible repeat (first | apply r1_ | apply r2_ | apply r3_)); exact HO_3.out) hb); have n1_ := a0_ (Kd.V_lower (v4_ (ok' := fun k_ => (w.heap.size ≤ k_) ∧ k_ ≠ gb201) ho0 (fun k_ hk_ => ⟨Or.elim hk_ (fun hs_ => ((Kd.R_types (HO_3.out) BK201.out (by decide)).1 k_ hs_.symm).1) (fun hn_ => (Nat.le_trans (below_size (by repeat (first | (with_reducible first | exact HB.out | apply b1_ | apply b2_ | apply b3_ | refine b4_ ?_ GE201.out) | exact HB.out))) hn_)), Or.elim hk_ (fun hs_ => ((Kd.R_types (HO_3.out) BK201.out (by decide)).1 k_ hs_.symm).2) (fun hn_ => (Kd.freshB (g := gb201) (o := .cells #[.bool false, .slice none 0 0] 29 (0, 0)) (by (with_reducible repeat (first | refine k1_ ?_ _ | refine k2_ ?_ | refine k3_ ?_ _)); exact BK201.out) k_ hn_))⟩)) (below_size (by repeat (first | (with_reducible first | exact HB.out | apply b1_ | apply b2_ | apply b3_ | refine b4_ ?_ GE201.out) | exact HB.out)))); have n2_ := a0_ (blk_below (g := gb201) (o := .cells #[.bool false, .slice none 0 0] 29 (0, 0)) (by (with_reducible repeat (first | refine k1_ ?_ _ | refine k2_ ?_ | refine k3_ ?_ _)); exact BK201.out) hb); have n3_ := a0_ (below_step (by repeat (first | (with_reducible first | exact HB.out | apply b1_ | apply b2_ | apply b3_ | refine b4_ ?_ GE201.out) | exact HB.out)) hb); clear HO_3; clear BK201; clear HB; have HO_3 := n0_; have HO212 := n1_; have BK201 := n2_; have HB := n3_; clear n0_ n1_ n2_ n3_; (try clear hb); (try clear hb2); (try clear hk); (try clear hi); (try clear ho0)) | ((with_reducible refine gate_dst (N := 6) rfl ?_); (try (refine gate_guard (by rfl) ?_; dsimp only)); refine box_event ?hg (N := 6) ?hd (cs := #[.bool false, .slice none 0 0]) (t := 29) ?hr ?_; (case hd => rfl); (case hg => rfl); (case hr => first | (go_simp; done) | (go_simp; rfl)); intro gb213 hg w15 hbox hb; have n0_ := a0_ (Kd.R_below (by (with_reducible repeat (first | apply r1_ | apply r2_ | apply r3_)); exact HO_3.out) hb); have n1_ := a0_ (Kd.V_below (Kd.V_elderB (by (with_reducible repeat (first | apply v1_ | apply v2_ | apply v3_)); exact HO212.out) gb213 (Nat.le_of_eq hg.symm)) hb); have n2_ := a0_ (blk_below (g := gb201) (o := .cells #[.bool false, .slice none 0 0] 29 (0, 0)) (by (with_reducible repeat (first | refine k1_ ?_ _ | refine k2_ ?_ | refine k3_ ?_ _)); exact BK201.out) hb); have n3_ := a0_ (below_step (by repeat (first | (with_reducible first | exact HB.out | apply b1_ | apply b2_ | apply b3_ | refine b4_ ?_ GE201.out) | exact HB.out)) hb); have n4_ := a0_ (hbox); have n5_ := a0_ ((by rw [hg]; exact (below_size (by repeat (first | (with_reducible first | exact HB.out | apply b1_ | apply b2_ | apply b3_ | refine b4_ ?_ GE201.out) | exact HB.out))) : w.heap.size ≤ gb213)); have n6_ := a0_ ((by rw [hg]; exact (below_size (by repeat (first | (with_reducible first | exact HB.out | apply b1_ | apply b2_ | apply b3_ | refine b4_ ?_ GE201.out) | exact HB.out))) : w.heap.size ≤ gb213)); have n7_ := a0_ ((by rw [hg]; exact Nat.ne_of_lt (blk_lt (g := gb201) (o := .cells #[.bool false, .slice none 0 0] 29 (0, 0)) (by (with_reducible repeat (first | refine k1_ ?_ _ | refine k2_ ?_ | refine k3_ ?_ _)); exact BK201.out)) : gb201 ≠ gb213)); have n8_ := a0_ ((by rw [hg]; exact Nat.ne_of_gt (blk_lt (g := gb201) (o := .cells #[.bool false, .slice none 0 0] 29 (0, 0)) (by (with_reducible repeat (first | refine k1_ ?_ _ | refine k2_ ?_ | refine k3_ ?_ _)); exact BK201.out)) : gb213 ≠ gb201)); clear HO_3; clear HO212; clear BK201; clear HB; have HO_3 := n0_; have HO212 := n1_; have BK201 := n2_; have HB := n3_; have BK213 := n4_; have GW213 := n5_; have GE213 := n6_; have NB201_213 := n7_; have NB213_201 := n8_; clear n0_ n1_ n2_ n3_ n4_ n5_ n6_ n7_ n8_; clear hb hbox hg; have hnb16 := NB213_201.out; have hnc16 := NB201_213.out; have hcz17_0 : w15.cell? ⟨gb213, 0, none⟩ = some (.bool false) := (blk_cell BK213.out 0).trans rfl; have hcz17_1 : w15.cell? ⟨gb213, 1, none⟩ = some (.slice none 0 0) := (blk_cell BK213.out 1).trans rfl; have hfz17_0 := blk_frozen BK213.out 0; have hfz17_1 := blk_frozen BK213.out 1; obtain ⟨Ao18, co18, eo18⟩ := Kd.V_slice HO212.out; subst eo18))
    (try simp only [Act.put, s1_, s2_, s3_])
    go_cut [36] (fun v36 wc => ∃ (kq : Nat) (x36_11 : Bool), v36 = .bool x36_11 ∧ Aside0 (spec_FromWords.j1 kq l0 x36_11 t209 t210 = some (r1, r2)) ∧ Aside0 (kq ≤ k1) ∧ Aside0 (Kd.V (Kd.int .u32) 96 wc w.heap.size (fun k_ => (w.heap.size ≤ k_) ∧ k_ ≠ gb201 ∧ k_ ≠ gb213) (.slice Ao18 t210.length co18) t210) ∧ Aside0 (wc.heap[gb201]? = some (.cells #[.bool false, (.slice none 0 0)] 29 (0, 0))) ∧ Aside0 (wc.heap[gb213]? = some (.cells #[.bool t209, (.slice Ao18 t210.length co18)] 29 (0, 0))) ∧ Aside0 (Below w.heap.size w wc))
    case first =>
     have H := HC12.out
     clear HC12
     by_cases c19 : (l0.length : Int) > 0
     ·
      rw [if_pos c19] at H
      have c19b0 : decide (0 < (l0.length : Int)) = true := d2_ c19
      have c19b1 : decide (0 < l0.length) = true := d2_ (by omega)
      clear c19
      (first | rw [c19b0] | (simp only [i64_w, i32_w]; rw [c19b0]) | skip)
      obtain ⟨ji20, hji20⟩ : ∃ j_ : Int, (wrap64 ((l0.length : Int) - 1)) = j_ := ⟨_, rfl⟩
      replace H : (if 0 ≤ (ji20) then (if (ji20) < (l0.length : Int) then (spec_FromWords.j1 k1 l0 (((rd l0 (ji20)) / 9223372036854775808) == 1) t209 t210) else (none)) else (none)) = some (r1, r2) := by first | (rw [hji20] at H; exact H) | (simp only [hji20] at H ⊢; exact H)
      have hji20w : (IntKind.i64.wrap ((l0.length : Int) - 1)) = ji20 := (i64_w _).trans hji20
      by_cases c21 : 0 ≤ (ji20)
      ·
       rw [if_pos c21] at H
       have c21b0 : decide (0 ≤ (ji20)) = true := d2_ c21
       clear c21
       by_cases c22 : (ji20) < (l0.length : Int)
       ·
        rw [if_pos c22] at H
        have c22b0 : decide ((ji20) < (l0.length : Int)) = true := d2_ c22
        clear c22
        have H' := a0_ H
        clear H
        have p214 : 0 ≤ ((ji20) : Int) := d1_ (by first | (with_reducible assumption) | assumption)
        have q214 : (ji20) < (l0.length : Int) := d1_ (by first | (with_reducible assumption) | assumption)
        obtain ⟨ad214, e214, hx214_0⟩ := Kd.at_int HR0.out (ji20) p214 q214
        cases e214
        have hn214_0 : ad214.block ≠ gb213 := Nat.ne_of_lt (Nat.lt_of_lt_of_le (by have := World.block_lt_of_cell? _ _ hx214_0; first | rwa [add_block] at this | exact this) GW213.out)
        have hn214_1 : ad214.block ≠ gb213 := Nat.ne_of_lt (Nat.lt_of_lt_of_le (by have := World.block_lt_of_cell? _ _ hx214_0; first | rwa [add_block] at this | exact this) GW213.out)
        replace hx214_0 := (HB.out.cell (World.block_lt_of_cell? w _ hx214_0)).trans hx214_0
        replace hx214_0 := (cell_far (p := ⟨gb213, 0, none⟩) (by first | (rw [add_block]; exact hn214_0) | (show (Addr.add _ _).block ≠ _; rw [add_block]; exact hn214_0) | exact hn214_0) (.bool t209)).trans hx214_0
        replace hx214_0 := (cell_far (p := ⟨gb213, 1, none⟩) (by first | (rw [add_block]; exact hn214_1) | (show (Addr.add _ _).block ≠ _; rw [add_block]; exact hn214_1) | exact hn214_1) (.slice Ao18 t210.length co18)).trans hx214_0
        clear hn214_0
        clear hn214_1
        replace p214 := eq_true p214
        replace q214 := eq_true q214
        go_wp2
        go_meet
        case rel => exact ⟨_, ((((rd l0 (ji20)) / 9223372036854775808) == 1)), (by first | rfl | (simp; done) | (simp only [← hji20] <;> (first | rfl | simp)) | (simp [*]; done)), H', ⟨by have := HK1.out; first | omega | exact Nat.le_refl _⟩, ⟨by (with_reducible repeat (first | apply v1_ | apply v2_ | apply v3_)); exact v4_ (v5_ (p := ⟨gb213, 1, none⟩) (v5_ (p := ⟨gb213, 0, none⟩) (v4_ HO212.out (fun k_ hk => (⟨hk, hk.2⟩ : _ ∧ k_ ≠ gb213))) (fun _ hk => hk.2) (.bool t209)) (fun _ hk => hk.2) (.slice Ao18 t210.length co18)) (fun _ hk => ⟨hk.1.1.1, ⟨hk.1.1.2, hk.1.2⟩⟩)⟩, ⟨by (with_reducible repeat (first | refine k1_ ?_ _ | refine k2_ ?_ | refine k3_ ?_ _)); refine blk_far ?_ NB201_213.out _; (with_reducible repeat (first | refine k1_ ?_ _ | refine k2_ ?_ | refine k3_ ?_ _)); refine blk_far ?_ NB201_213.out _; (with_reducible repeat (first | refine k1_ ?_ _ | refine k2_ ?_ | refine k3_ ?_ _)); exact BK201.out⟩, ⟨by (with_reducible repeat (first | refine k1_ ?_ _ | refine k2_ ?_ | refine k3_ ?_ _)); refine blk_put (cs := #[.bool t209, .slice none 0 0]) ?_ 1 _ rfl; (with_reducible repeat (first | refine k1_ ?_ _ | refine k2_ ?_ | refine k3_ ?_ _)); refine blk_put (cs := #[.bool false, .slice none 0 0]) ?_ 0 _ rfl; (with_reducible repeat (first | refine k1_ ?_ _ | refine k2_ ?_ | refine k3_ ?_ _)); exact BK213.out⟩, ⟨by repeat (first | (with_reducible first | exact HB.out | apply b1_ | apply b2_ | apply b3_ | refine b4_ ?_ GE201.out | refine b4_ ?_ GE213.out) | exact HB.out)⟩⟩
       ·
        rw [if_neg c22] at H
        exact absurd H (by simp)
      ·
       rw [if_neg c21] at H
       exact absurd H (by simp)
     ·
      rw [if_neg c19] at H
      have c19b0 : decide (0 < (l0.length : Int)) = false := d3_ c19
      have c19b1 : decide (0 < l0.length) = false := d3_ (by omega)
      clear c19
      (first | rw [c19b0] | (simp only [i64_w, i32_w]; rw [c19b0]) | skip)
      have H' := a0_ H
      clear H
      go_wp2
      go_meet
      case rel => exact ⟨_, (false), (by first | rfl | (simp; done) | (simp [*]; done)), H', ⟨by have := HK1.out; first | omega | exact Nat.le_refl _⟩, ⟨by (with_reducible repeat (first | apply v1_ | apply v2_ | apply v3_)); exact v4_ (v5_ (p := ⟨gb213, 1, none⟩) (v5_ (p := ⟨gb213, 0, none⟩) (v4_ HO212.out (fun k_ hk => (⟨hk, hk.2⟩ : _ ∧ k_ ≠ gb213))) (fun _ hk => hk.2) (.bool t209)) (fun _ hk => hk.2) (.slice Ao18 t210.length co18)) (fun _ hk => ⟨hk.1.1.1, ⟨hk.1.1.2, hk.1.2⟩⟩)⟩, ⟨by (with_reducible repeat (first | refine k1_ ?_ _ | refine k2_ ?_ | refine k3_ ?_ _)); refine blk_far ?_ NB201_213.out _; (with_reducible repeat (first | refine k1_ ?_ _ | refine k2_ ?_ | refine k3_ ?_ _)); refine blk_far ?_ NB201_213.out _; (with_reducible repeat (first | refine k1_ ?_ _ | refine k2_ ?_ | refine k3_ ?_ _)); exact BK201.out⟩, ⟨by (with_reducible repeat (first | refine k1_ ?_ _ | refine k2_ ?_ | refine k3_ ?_ _)); refine blk_put (cs := #[.bool t209, .slice none 0 0]) ?_ 1 _ rfl; (with_reducible repeat (first | refine k1_ ?_ _ | refine k2_ ?_ | refine k3_ ?_ _)); refine blk_put (cs := #[.bool false, .slice none 0 0]) ?_ 0 _ rfl; (with_reducible repeat (first | refine k1_ ?_ _ | refine k2_ ?_ | refine k3_ ?_ _)); exact BK213.out⟩, ⟨by repeat (first | (with_reducible first | exact HB.out | apply b1_ | apply b2_ | apply b3_ | refine b4_ ?_ GE201.out | refine b4_ ?_ GE213.out) | exact HB.out)⟩⟩
    case rest =>
     clear HC12
     try clear c1
     try clear c2
     try clear p2
     try clear q2
     try clear hx2
     try clear c3
     try clear c3b0
     try clear c4
     try clear c4b0
     try clear c5
     try clear c5b0
     try clear c6
     try clear p6
     try clear c16
     try clear c19
     try clear c19b0
     try clear c19b1
     try clear p20
     try clear q20
     try clear hx20
     try clear c21
     try clear c21b0
     try clear p21
     try clear q21
     try clear hx21
     try clear c22
     try clear c22b0
     try clear hcz17_0
     try clear hcz17_1
     try clear hfz17_0
     try clear hfz17_1
     try clear hx202_0
     try clear hx214_0
     try clear p2
     try clear p202
     try clear p214
     try clear q202
     try clear q214
     obtain ⟨kq, x36_11, rfl, HA, HJ11, HO_214001, BK201, BK213, HB⟩ := hcut
     cases kq with
     | zero => exact absurd HA.out (by simp [spec_FromWords.j1])
     | succ kj11 =>
      have H := HA.out
      clear HA
      simp only [spec_FromWords.j1] at H
      by_cases c23 : x36_11 = true
      ·
       subst c23
       have H1 : ((spec_Two.f kj11 (wrap64 (64 * (l0.length : Int)))).bind fun bt215 => ((spec_WideSub.f kj11 t209 t210 bt215.1 bt215.2).bind fun bt219 => (some (bt219.1, bt219.2)))) = some (r1, r2) := by rw [if_pos rfl] at H; exact H
       clear H
       have H := H1
       clear H1
       replace H := Option.bind_eq_some_iff.mp H
       obtain ⟨⟨t215, t216⟩, A240, H⟩ := H
       replace H : ((spec_WideSub.f kj11 t209 t210 t215 t216).bind fun bt219 => (some (bt219.1, bt219.2))) = some (r1, r2) := H
       have A24 := a0_ A240
       clear A240
       replace H := Option.bind_eq_some_iff.mp H
       obtain ⟨⟨t219, t220⟩, A250, H⟩ := H
       replace H : (some (t219, t220)) = some (r1, r2) := H
       have A25 := a0_ A250
       clear A250
       simp only [Option.some.injEq, Prod.mk.injEq] at H
       obtain ⟨rfl, rfl⟩ := H
       try go_wp2
       have n0_ := a0_ (v3_ HO_214001.out)
       have n1_ := a0_ (k2_ BK201.out)
       have n2_ := a0_ (k2_ BK213.out)
       have n3_ := a0_ (b3_ HB.out)
       clear HO_214001
       clear BK201
       clear BK213
       clear HB
       have HO_214001 := n0_
       have BK201 := n1_
       have BK213 := n2_
       have HB := n3_
       clear n0_ n1_ n2_ n3_
       refine start_ (n := 7) (S := fun w' => w'.cell? ⟨gb213, 0, none⟩ = some (.bool t209) ∧ w'.cell? ⟨gb213, 1, none⟩ = some (.slice Ao18 t210.length co18)) (ds := [6]) #[false, false, false, false, false, false, false] (by kernel_rfl) rfl rfl ⟨(blk_cell BK213.out 0).trans rfl, (blk_cell BK213.out 1).trans rfl⟩ (fun hHeld => ?_)
       generalize wc.drew = w26 at HO_214001 BK201 BK213 HB hHeld ⊢
       refine pure_ (i := 1) (N := some 38) (v := ?_) (a' := ?_) #[false, true, false, false, false, false, false] rfl rfl (by kernel_rfl) (fun _ _ _ h => h) (Or.inl ⟨by rfl, ?_⟩) ?_ ?_
       rotate_left
       ·
        intro w'
        go_simp
        with_reducible rfl
       rotate_left
       ·
        simp only [Act.put, s1_, s2_, s3_, i64_w, i32_w]
        rfl
       refine pure_ (i := 2) (N := some 39) (v := ?_) (a' := ?_) #[false, true, true, false, false, false, false] rfl rfl (by kernel_rfl) (fun _ _ _ h => h) (Or.inl ⟨by rfl, ?_⟩) ?_ ?_
       rotate_left
       ·
        intro w'
        go_simp
        with_reducible rfl
       rotate_left
       ·
        simp only [Act.put, s1_, s2_, s3_, i64_w, i32_w]
        rfl
       refine pure_ (i := 3) (N := some 40) (v := ?_) (a' := ?_) #[false, true, true, true, false, false, false] rfl rfl (by kernel_rfl) (fun _ _ _ h => h) (Or.inl ⟨by rfl, ?_⟩) ?_ ?_
       rotate_left
       ·
        intro w'
        go_simp
        with_reducible rfl
       rotate_left
       ·
        simp only [Act.put, s1_, s2_, s3_, i64_w, i32_w]
        rfl
       refine take_ (i := 0) (N := some 37) (v := ?_) (a' := ?_) #[true, true, true, true, false, false, false] rfl rfl (by kernel_rfl) (fun _ _ _ h => h) (Or.inl ⟨by rfl, ?_⟩) hHeld ?_ ?_
       rotate_left
       ·
        rintro w' ⟨s0, s1⟩
        go_simp
        with_reducible rfl
       rotate_left
       ·
        simp only [Act.put, s1_, s2_, s3_, i64_w, i32_w]
        rfl
       refine one_ (i := 4) (N := some 41) #[true, true, true, true, true, false, false] rfl rfl (by kernel_rfl) (by decide) (fun K hK => ?_)
       refine goes_ Try.func72 (by kernel_rfl) rfl #[.int .i64 (wrap64 (64 * (l0.length : Int)))] (by rfl) rfl rfl (by (try simp only [List.map_toArray, List.map_cons, List.map_nil]); first | done | rfl | (simp only [List.length_drop, List.length_take]; rfl)) ?_
       with_reducible refine (spec_Two.calls kj11 (wrap64 (64 * (l0.length : Int))) t215 t216 _ A24.out).mono ?_
       rintro e w27 ⟨v217, rfl, ho0, hb⟩
       refine ⟨_, rfl, ?_⟩
       have n0_ := a0_ (Kd.V_below (by (with_reducible repeat (first | apply v1_ | apply v2_ | apply v3_)); exact HO_214001.out) hb)
       have n1_ := a0_ (Kd.V_lower (v4_ (ok' := fun k_ => (w.heap.size ≤ k_) ∧ k_ ≠ gb201 ∧ k_ ≠ gb213) ho0 (fun k_ hk_ => ⟨(Nat.le_trans (below_size (by repeat (first | (with_reducible first | exact HB.out | apply b1_ | apply b2_ | apply b3_ | refine b4_ ?_ GE201.out | refine b4_ ?_ GE213.out) | exact HB.out))) hk_), (Kd.freshB (g := gb201) (o := .cells #[.bool false, .slice none 0 0] 29 (0, 0)) (by (with_reducible repeat (first | refine k1_ ?_ _ | refine k2_ ?_ | refine k3_ ?_ _)); exact BK201.out) k_ hk_), (Kd.freshB (g := gb213) (o := .cells #[.bool t209, .slice Ao18 t210.length co18] 29 (0, 0)) (by (with_reducible repeat (first | refine k1_ ?_ _ | refine k2_ ?_ | refine k3_ ?_ _)); exact BK213.out) k_ hk_)⟩)) (below_size (by repeat (first | (with_reducible first | exact HB.out | apply b1_ | apply b2_ | apply b3_ | refine b4_ ?_ GE201.out | refine b4_ ?_ GE213.out) | exact HB.out))))
       have n2_ := a0_ (blk_below (g := gb201) (o := .cells #[.bool false, .slice none 0 0] 29 (0, 0)) (by (with_reducible repeat (first | refine k1_ ?_ _ | refine k2_ ?_ | refine k3_ ?_ _)); exact BK201.out) hb)
       have n3_ := a0_ (blk_below (g := gb213) (o := .cells #[.bool t209, .slice Ao18 t210.length co18] 29 (0, 0)) (by (with_reducible repeat (first | refine k1_ ?_ _ | refine k2_ ?_ | refine k3_ ?_ _)); exact BK213.out) hb)
       have n4_ := a0_ (below_step (by repeat (first | (with_reducible first | exact HB.out | apply b1_ | apply b2_ | apply b3_ | refine b4_ ?_ GE201.out | refine b4_ ?_ GE213.out) | exact HB.out)) hb)
       clear HO_214001
       clear BK201
       clear BK213
       clear HB
       have HO_214001 := n0_
       have HO218 := n1_
       have BK201 := n2_
       have BK213 := n3_
       have HB := n4_
       clear n0_ n1_ n2_ n3_ n4_
       (try clear hb)
       (try clear hb2)
       (try clear hk)
       (try clear hi)
       (try clear ho0)
       obtain ⟨Ao28, co28, eo28⟩ := Kd.V_slice HO218.out
       (first | subst eo28 | (injection eo28 with f1_ f2_ f3_; have f4_ := f1_.symm; have f5_ := f3_.symm; clear f1_ f2_ f3_; subst f4_; subst f5_))
       refine hK.out _ _ ⟨(blk_cell BK213.out 0).trans rfl, (blk_cell BK213.out 1).trans rfl⟩ (fun hHeld => ?_)
       clear hK K
       refine norm_ (a' := ?_) ?_ ?_
       rotate_left
       ·
        show Act.put _ (some 41) _ = _
        simp only [Act.put, s1_, s2_, s3_, i64_w, i32_w]
        rfl
       refine one_ (i := 5) (N := some 42) #[true, true, true, true, true, true, false] rfl rfl (by kernel_rfl) (by decide) (fun K hK => ?_)
       refine goes_ Try.func71 (by kernel_rfl) rfl #[.agg #[.bool t209, .slice Ao18 t210.length co18], .agg #[.bool t215, .slice Ao28 t216.length co28]] (by rfl) rfl rfl (by (try simp only [List.map_toArray, List.map_cons, List.map_nil]); first | done | rfl | (simp only [List.length_drop, List.length_take]; rfl)) ?_
       with_reducible refine (spec_WideSub.calls kj11 t209 _ _ t210 t215 (fun k_ => ((w.heap.size ≤ k_) ∧ (k_ ≠ gb201 ∧ k_ ≠ gb213))) _ _ t216 t219 t220 _ ?side1 ?side2 ?side3 A25.out).mono ?_
       (case side1 => repeat (first | exact (Kd.V_reads' HO_214001.out).2.2 | (with_reducible refine Kd.C_alloc ?_ _) | (with_reducible refine Kd.C_drewN ?_ _) | (with_reducible refine Kd.C_drew ?_)))
       (case side2 => exact (Kd.V_reads' HO_214001.out).2.1)
       (case side3 => exact HO218.out)
       rintro e w29 ⟨v221, rfl, ho0, hb⟩
       refine ⟨_, rfl, ?_⟩
       have n0_ := a0_ (Kd.V_below (by (with_reducible repeat (first | apply v1_ | apply v2_ | apply v3_)); exact HO_214001.out) hb)
       have n1_ := a0_ (Kd.V_below (by (with_reducible repeat (first | apply v1_ | apply v2_ | apply v3_)); exact HO218.out) hb)
       have n2_ := a0_ (Kd.V_lower (v4_ (ok' := fun k_ => (w.heap.size ≤ k_) ∧ k_ ≠ gb201 ∧ k_ ≠ gb213) ho0 (fun k_ hk_ => ⟨Or.elim hk_ (fun hs_ => hs_.1) (fun hn_ => (Nat.le_trans (below_size (by repeat (first | (with_reducible first | exact HB.out | apply b1_ | apply b2_ | apply b3_ | refine b4_ ?_ GE201.out | refine b4_ ?_ GE213.out) | exact HB.out))) hn_)), Or.elim hk_ (fun hs_ => hs_.2.1) (fun hn_ => (Kd.freshB (g := gb201) (o := .cells #[.bool false, .slice none 0 0] 29 (0, 0)) (by (with_reducible repeat (first | refine k1_ ?_ _ | refine k2_ ?_ | refine k3_ ?_ _)); exact BK201.out) k_ hn_)), Or.elim hk_ (fun hs_ => hs_.2.2) (fun hn_ => (Kd.freshB (g := gb213) (o := .cells #[.bool t209, .slice Ao18 t210.length co18] 29 (0, 0)) (by (with_reducible repeat (first | refine k1_ ?_ _ | refine k2_ ?_ | refine k3_ ?_ _)); exact BK213.out) k_ hn_))⟩)) (below_size (by repeat (first | (with_reducible first | exact HB.out | apply b1_ | apply b2_ | apply b3_ | refine b4_ ?_ GE201.out | refine b4_ ?_ GE213.out) | exact HB.out))))
       have n3_ := a0_ (blk_below (g := gb201) (o := .cells #[.bool false, .slice none 0 0] 29 (0, 0)) (by (with_reducible repeat (first | refine k1_ ?_ _ | refine k2_ ?_ | refine k3_ ?_ _)); exact BK201.out) hb)
       have n4_ := a0_ (blk_below (g := gb213) (o := .cells #[.bool t209, .slice Ao18 t210.length co18] 29 (0, 0)) (by (with_reducible repeat (first | refine k1_ ?_ _ | refine k2_ ?_ | refine k3_ ?_ _)); exact BK213.out) hb)
       have n5_ := a0_ (below_step (by repeat (first | (with_reducible first | exact HB.out | apply b1_ | apply b2_ | apply b3_ | refine b4_ ?_ GE201.out | refine b4_ ?_ GE213.out) | exact HB.out)) hb)
       clear HO_214001
       clear HO218
       clear BK201
       clear BK213
       clear HB
       have HO_214001 := n0_
       have HO218 := n1_
       have HO222 := n2_
       have BK201 := n3_
       have BK213 := n4_
       have HB := n5_
       clear n0_ n1_ n2_ n3_ n4_ n5_
       (try clear hb)
       (try clear hb2)
       (try clear hk)
       (try clear hi)
       (try clear ho0)
       obtain ⟨Ao31, co31, eo31⟩ := Kd.V_slice HO222.out
       (first | subst eo31 | (injection eo31 with f1_ f2_ f3_; have f4_ := f1_.symm; have f5_ := f3_.symm; clear f1_ f2_ f3_; subst f4_; subst f5_))
       refine hK.out _ _ ⟨(blk_cell BK213.out 0).trans rfl, (blk_cell BK213.out 1).trans rfl⟩ (fun hHeld => ?_)
       clear hK K
       refine norm_ (a' := ?_) ?_ ?_
       rotate_left
       ·
        show Act.put _ (some 42) _ = _
        simp only [Act.put, s1_, s2_, s3_, i64_w, i32_w]
        rfl
       refine last_ (i := 6) (N := none) #[true, true, true, true, true, true, true] rfl rfl (by kernel_rfl) (by decide) (fun K hK => ?_)
       have hs30 : w29.cell? ⟨gb213, 0, none⟩ = some (.bool t209) := (blk_cell BK213.out 0).trans rfl
       have hfs30 := blk_frozen BK213.out 0
       have hns30_0 := NB201_213.out
       have hms30_0 := NB213_201.out
       have hs32 : w29.cell? ⟨gb213, 1, none⟩ = some (.slice Ao18 t210.length co18) := (blk_cell BK213.out 1).trans rfl
       have hfs32 := blk_frozen BK213.out 1
       have hns32_0 := NB201_213.out
       have hms32_0 := NB213_201.out
       refine skip_ (w1 := ?_) (by rfl) rfl ?_ ?_
       rotate_left
       ·
        go_simp
        rfl
       refine hK.out _ _ ?_
       clear hK K
       refine done_ (by kernel_rfl) ?_
       have hnb33 := NB213_201.out
       have hnc33 := NB201_213.out
       have hcz34_0 : w29.cell? ⟨gb213, 0, none⟩ = some (.bool t209) := (blk_cell BK213.out 0).trans rfl
       have hcz34_1 : w29.cell? ⟨gb213, 1, none⟩ = some (.slice Ao18 t210.length co18) := (blk_cell BK213.out 1).trans rfl
       have hfz34_0 := blk_frozen BK213.out 0
       have hfz34_1 := blk_frozen BK213.out 1
       have hcz35_0 : w29.cell? ⟨gb201, 0, none⟩ = some (.bool false) := (blk_cell BK201.out 0).trans rfl
       have hcz35_1 : w29.cell? ⟨gb201, 1, none⟩ = some (.slice none 0 0) := (blk_cell BK201.out 1).trans rfl
       have hfz35_0 := blk_frozen BK201.out 0
       have hfz35_1 := blk_frozen BK201.out 1
       try go_wp2
       refine bodyPost_ret (results_cell_row rfl _ _ gb201 29 #[.bool t219, .slice Ao31 t220.length co31] (0, 0) _ rfl (by (with_reducible repeat (first | refine k1_ ?_ _ | refine k2_ ?_ | refine k3_ ?_ _)); refine blk_put (cs := #[.bool t219, .slice none 0 0]) ?_ 1 _ rfl; (with_reducible repeat (first | refine k1_ ?_ _ | refine k2_ ?_ | refine k3_ ?_ _)); refine blk_put (cs := #[.bool false, .slice none 0 0]) ?_ 0 _ rfl; (with_reducible repeat (first | refine k1_ ?_ _ | refine k2_ ?_ | refine k3_ ?_ _)); refine blk_far ?_ NB201_213.out _; (with_reducible repeat (first | refine k1_ ?_ _ | refine k2_ ?_ | refine k3_ ?_ _)); refine blk_far ?_ NB201_213.out _; (with_reducible repeat (first | refine k1_ ?_ _ | refine k2_ ?_ | refine k3_ ?_ _)); exact BK201.out) Try.underlying29 rfl (by kernel_rfl)) rfl ?_
       exact ⟨_, by first | rfl | (simp [e1_, e2_] <;> rfl) | (simp [*, e1_, e2_] <;> rfl), by (with_reducible repeat (first | apply v1_ | apply v2_ | apply v3_)); exact v4_ (v5_ (p := ⟨gb201, 1, none⟩) (v5_ (p := ⟨gb201, 0, none⟩) (v5_ (p := ⟨gb213, 1, none⟩) (v5_ (p := ⟨gb213, 0, none⟩) (v4_ (v4_ HO222.out (fun k_ hk => (⟨hk, hk.2.2⟩ : _ ∧ k_ ≠ gb213))) (fun k_ hk => (⟨hk, hk.1.2.1⟩ : _ ∧ k_ ≠ gb201))) (fun _ hk => hk.1.2) (.bool t219)) (fun _ hk => hk.1.2) (.slice Ao31 t220.length co31)) (fun _ hk => hk.2) (.bool t219)) (fun _ hk => hk.2) (.slice Ao31 t220.length co31)) (fun _ hk => hk.1.1.1), by repeat (first | (with_reducible first | exact HB.out | apply b1_ | apply b2_ | apply b3_ | refine b4_ ?_ GE201.out | refine b4_ ?_ GE213.out) | exact HB.out)⟩
      ·
       replace c23 := Bool.eq_false_iff.mpr c23
       subst c23
       have H1 : (some (t209, t210)) = some (r1, r2) := by rw [if_neg (show ¬ (false = true) by decide)] at H; exact H
       clear H
       have H := H1
       clear H1
       simp only [Option.some.injEq, Prod.mk.injEq] at H
       obtain ⟨rfl, rfl⟩ := H
       have hnb36 := NB213_201.out
       have hnc36 := NB201_213.out
       have hcz37_0 : wc.cell? ⟨gb213, 0, none⟩ = some (.bool t209) := (blk_cell BK213.out 0).trans rfl
       have hcz37_1 : wc.cell? ⟨gb213, 1, none⟩ = some (.slice Ao18 t210.length co18) := (blk_cell BK213.out 1).trans rfl
       have hfz37_0 := blk_frozen BK213.out 0
       have hfz37_1 := blk_frozen BK213.out 1
       have hcz38_0 : wc.cell? ⟨gb201, 0, none⟩ = some (.bool false) := (blk_cell BK201.out 0).trans rfl
       have hcz38_1 : wc.cell? ⟨gb201, 1, none⟩ = some (.slice none 0 0) := (blk_cell BK201.out 1).trans rfl
       have hfz38_0 := blk_frozen BK201.out 0
       have hfz38_1 := blk_frozen BK201.out 1
       go_wp2
       refine bodyPost_ret (results_cell_row rfl _ _ gb201 29 #[.bool t209, .slice Ao18 t210.length co18] (0, 0) _ rfl (by (with_reducible repeat (first | refine k1_ ?_ _ | refine k2_ ?_ | refine k3_ ?_ _)); refine blk_put (cs := #[.bool t209, .slice none 0 0]) ?_ 1 _ rfl; (with_reducible repeat (first | refine k1_ ?_ _ | refine k2_ ?_ | refine k3_ ?_ _)); refine blk_put (cs := #[.bool false, .slice none 0 0]) ?_ 0 _ rfl; (with_reducible repeat (first | refine k1_ ?_ _ | refine k2_ ?_ | refine k3_ ?_ _)); exact BK201.out) Try.underlying29 rfl (by kernel_rfl)) rfl ?_
       exact ⟨_, by first | rfl | (simp [e1_, e2_] <;> rfl) | (simp [*, e1_, e2_] <;> rfl), by (with_reducible repeat (first | apply v1_ | apply v2_ | apply v3_)); exact v4_ (v5_ (p := ⟨gb201, 1, none⟩) (v5_ (p := ⟨gb201, 0, none⟩) (v4_ HO_214001.out (fun k_ hk => (⟨hk, hk.2.1⟩ : _ ∧ k_ ≠ gb201))) (fun _ hk => hk.2) (.bool t209)) (fun _ hk => hk.2) (.slice Ao18 t210.length co18)) (fun _ hk => hk.1.1), by repeat (first | (with_reducible first | exact HB.out | apply b1_ | apply b2_ | apply b3_ | refine b4_ ?_ GE201.out | refine b4_ ?_ GE213.out) | exact HB.out)⟩

/-! ### laws_decimal: function 9 -/
def laws_decimal.f (k : Nat) (a0 : Int) (l1 : List Int) : Option (Bool × List Int × Bool) := (laws_wordsOf.f k a0).bind fun bt224 => (if bt224.2 = true then (if (l1.length : Int) = bt224.1 then (if a0 = 32 then (if 0 < (l1.length : Int) then (if (IntKind.u64.wrap (wrap64 (wrap32 (rd l1 0)))) = (rd l1 0) then ((spec_FromWords.f k l1).bind fun bt228 => (some (bt228.1, bt228.2, true))) else (some (false, ([] : List Int), false))) else (none)) else ((spec_FromWords.f k l1).bind fun bt232 => (some (bt232.1, bt232.2, true)))) else (some (false, ([] : List Int), false))) else (some (false, ([] : List Int), false)))
set_option maxHeartbeats 8000000 in
set_option maxRecDepth 100000 in
theorem laws_decimal.calls (k : Nat) (a0 : Int) (A1 : Option Addr) (c1 : Nat) (l1 : List Int) (r1 : Bool) (r2 : List Int) (r3 : Bool) (w : World) (hr1 : Kd.C (Kd.int .u64) w A1 l1.length l1) (hc1 : l1.length ≤ c1) (h : laws_decimal.f k a0 l1 = some (r1, r2, r3)) :
  Calls Try.prog 9 #[.int .i64 a0, .slice A1 l1.length c1] w fun e w' => ∃ v1_ : Value, e = .returned (.tuple #[.agg #[.bool r1, v1_], .bool r3]) ∧ Kd.V (Kd.int .u32) 96 w' w.heap.size (fun k_ => (w.heap.size ≤ k_)) v1_ r2 ∧ Below w.heap.size w w' := by
 have hu29 := Try.underlying29
 have HR1 := a0_ hr1
 have HC1 := a0_ hc1
 clear hr1 hc1
 have HB := a0_ (Below.refl w.heap.size w)
 have H : ((laws_wordsOf.f k a0).bind fun bt224 => (if bt224.2 = true then (if (l1.length : Int) = bt224.1 then (if a0 = 32 then (if 0 < (l1.length : Int) then (if (IntKind.u64.wrap (wrap64 (wrap32 (rd l1 0)))) = (rd l1 0) then ((spec_FromWords.f k l1).bind fun bt228 => (some (bt228.1, bt228.2, true))) else (some (false, ([] : List Int), false))) else (none)) else ((spec_FromWords.f k l1).bind fun bt232 => (some (bt232.1, bt232.2, true)))) else (some (false, ([] : List Int), false))) else (some (false, ([] : List Int), false)))) = some (r1, r2, r3) := h
 clear h
 replace H := Option.bind_eq_some_iff.mp H
 obtain ⟨⟨t224, t225⟩, A30, H⟩ := H
 replace H : (if t225 = true then (if (l1.length : Int) = t224 then (if a0 = 32 then (if 0 < (l1.length : Int) then (if (IntKind.u64.wrap (wrap64 (wrap32 (rd l1 0)))) = (rd l1 0) then ((spec_FromWords.f k l1).bind fun bt228 => (some (bt228.1, bt228.2, true))) else (some (false, ([] : List Int), false))) else (none)) else ((spec_FromWords.f k l1).bind fun bt232 => (some (bt232.1, bt232.2, true)))) else (some (false, ([] : List Int), false))) else (some (false, ([] : List Int), false))) = some (r1, r2, r3) := H
 have A3 := a0_ A30
 clear A30
 by_cases c4 : t225 = true
 ·
  subst c4
  have H1 : (if (l1.length : Int) = t224 then (if a0 = 32 then (if 0 < (l1.length : Int) then (if (IntKind.u64.wrap (wrap64 (wrap32 (rd l1 0)))) = (rd l1 0) then ((spec_FromWords.f k l1).bind fun bt228 => (some (bt228.1, bt228.2, true))) else (some (false, ([] : List Int), false))) else (none)) else ((spec_FromWords.f k l1).bind fun bt232 => (some (bt232.1, bt232.2, true)))) else (some (false, ([] : List Int), false))) = some (r1, r2, r3) := by rw [if_pos rfl] at H; exact H
  clear H
  have H := H1
  clear H1
  by_cases c5 : (l1.length : Int) = t224
  ·
   rw [if_pos c5] at H
   have c5b0 : ((l1.length : Int) == t224) = true := beq_iff_eq.mpr c5
   have c5b1 : ((l1.length : Int) != t224) = false := bne_eq_false_iff_eq.mpr c5
   clear c5
   by_cases c6 : a0 = 32
   ·
    rw [if_pos c6] at H
    have c6b0 : (a0 == 32) = true := beq_iff_eq.mpr c6
    have c6b1 : (a0 != 32) = false := bne_eq_false_iff_eq.mpr c6
    clear c6
    by_cases c7 : 0 < (l1.length : Int)
    ·
     rw [if_pos c7] at H
     have c7b0 : decide (0 < (l1.length : Int)) = true := d2_ c7
     have c7b1 : decide (0 < l1.length) = true := d2_ (by omega)
     clear c7
     by_cases c8 : (IntKind.u64.wrap (wrap64 (wrap32 (rd l1 0)))) = (rd l1 0)
     ·
      rw [if_pos c8] at H
      have c8b0 : ((IntKind.u64.wrap (wrap64 (wrap32 (rd l1 0)))) == (rd l1 0)) = true := beq_iff_eq.mpr c8
      have c8b1 : ((IntKind.u64.wrap (wrap64 (wrap32 (rd l1 0)))) != (rd l1 0)) = false := bne_eq_false_iff_eq.mpr c8
      clear c8
      replace H := Option.bind_eq_some_iff.mp H
      obtain ⟨⟨t228, t229⟩, A90, H⟩ := H
      replace H : (some (t228, t229, true)) = some (r1, r2, r3) := H
      have A9 := a0_ A90
      clear A90
      simp only [Option.some.injEq, Prod.mk.injEq] at H
      obtain ⟨rfl, rfl, rfl⟩ := H
      go_enter Try.func9, Try.ntmps9
      go_wp2_with (first | ((with_reducible refine gate_dst (N := 4) rfl ?_); (try (refine gate_guard (by rfl) ?_; dsimp only)); refine box_event ?hg (N := 4) ?hd (cs := #[.bool false, .slice none 0 0]) (t := 29) ?hr ?_; (case hd => rfl); (case hg => rfl); (case hr => first | (go_simp; done) | (go_simp; rfl)); intro gb223 hg w10 hbox hb; have n0_ := a0_ (below_step (by repeat (first | (with_reducible first | exact HB.out | apply b1_ | apply b2_ | apply b3_) | exact HB.out)) hb); have n1_ := a0_ (hbox); have n2_ := a0_ ((by rw [hg]; exact (below_size (by repeat (first | (with_reducible first | exact HB.out | apply b1_ | apply b2_ | apply b3_) | exact HB.out))) : w.heap.size ≤ gb223)); have n3_ := a0_ ((by rw [hg]; exact (below_size (by repeat (first | (with_reducible first | exact HB.out | apply b1_ | apply b2_ | apply b3_) | exact HB.out))) : w.heap.size ≤ gb223)); clear HB; have HB := n0_; have BK223 := n1_; have GW223 := n2_; have GE223 := n3_; clear n0_ n1_ n2_ n3_; clear hb hbox hg) | (go_at_call 27; (with_reducible refine (laws_wordsOf.calls k a0 t224 true _ A3.out).mono ?_); rintro e w' ⟨rfl, ⟨nd, rfl⟩⟩; (try first | exact ⟨rfl, _, World.drewN_drewN _ _ _⟩ | exact ⟨rfl, _, Eq.trans (World.drewN_drewN _ _ _) (congrArg (World.drewN _) (Nat.add_assoc _ _ _))⟩); have p226 : 0 ≤ (0 : Int) := (by omega); have q226 : 0 < (l1.length : Int) := d1_ (by first | (with_reducible assumption) | assumption); obtain ⟨ad226, e226, hx226_0⟩ := Kd.at_int HR1.out 0 p226 q226; cases e226; have qi226 : (0 < l1.length) = True := eq_true (by omega); (try rw [show ((0 : Int)).toNat = 0 from rfl] at hx226_0); (try rw [Addr.add_zero'] at hx226_0); replace hx226_0 := (HB.out.cell (World.block_lt_of_cell? w _ hx226_0)).trans hx226_0; replace p226 := eq_true p226; replace q226 := eq_true q226; have p227 : 0 ≤ (0 : Int) := (by omega); have q227 : 0 < (l1.length : Int) := d1_ (by first | (with_reducible assumption) | assumption); obtain ⟨ad227, e227, hx227_0⟩ := Kd.at_int HR1.out 0 p227 q227; obtain rfl : ad226 = ad227 := (by injection e227); have qi227 : (0 < l1.length) = True := eq_true (by omega); (try rw [show ((0 : Int)).toNat = 0 from rfl] at hx227_0); (try rw [Addr.add_zero'] at hx227_0); replace hx227_0 := (HB.out.cell (World.block_lt_of_cell? w _ hx227_0)).trans hx227_0; replace p227 := eq_true p227; replace q227 := eq_true q227) | (go_at_call 28; (with_reducible refine (spec_FromWords.calls k _ _ l1 t228 t229 _ ?side1 ?side2 A9.out).mono ?_); (case side1 => repeat (first | exact (Kd.C_below HR1.out (by repeat (first | (with_reducible first | exact HB.out | apply b1_ | apply b2_ | apply b3_ | refine b4_ ?_ GE223.out) | exact HB.out))) | (with_reducible refine Kd.C_alloc ?_ _) | (with_reducible refine Kd.C_drewN ?_ _) | (with_reducible refine Kd.C_drew ?_))); (case side2 => exact HC1.out); rintro e w11 ⟨v230, rfl, ho0, hb⟩; have n0_ := a0_ (Kd.V_lower (v4_ (ok' := fun k_ => (w.heap.size ≤ k_) ∧ k_ ≠ gb223) ho0 (fun k_ hk_ => ⟨(Nat.le_trans (below_size (by repeat (first | (with_reducible first | exact HB.out | apply b1_ | apply b2_ | apply b3_ | refine b4_ ?_ GE223.out) | exact HB.out))) hk_), (Kd.freshB (g := gb223) (o := .cells #[.bool false, .slice none 0 0] 29 (0, 0)) (by (with_reducible repeat (first | refine k1_ ?_ _ | refine k2_ ?_ | refine k3_ ?_ _)); exact BK223.out) k_ hk_)⟩)) (below_size (by repeat (first | (with_reducible first | exact HB.out | apply b1_ | apply b2_ | apply b3_ | refine b4_ ?_ GE223.out) | exact HB.out)))); have n1_ := a0_ (blk_below (g := gb223) (o := .cells #[.bool false, .slice none 0 0] 29 (0, 0)) (by (with_reducible repeat (first | refine k1_ ?_ _ | refine k2_ ?_ | refine k3_ ?_ _)); exact BK223.out) hb); have n2_ := a0_ (below_step (by repeat (first | (with_reducible first | exact HB.out | apply b1_ | apply b2_ | apply b3_ | refine b4_ ?_ GE223.out) | exact HB.out)) hb); clear BK223; clear HB; have HO231 := n0_; have BK223 := n1_; have HB := n2_; clear n0_ n1_ n2_; (try clear hb); (try clear hb2); (try clear hk); (try clear hi); (try clear ho0); have hcz12_0 : w11.cell? ⟨gb223, 0, none⟩ = some (.bool false) := (blk_cell BK223.out 0).trans rfl; have hcz12_1 : w11.cell? ⟨gb223, 1, none⟩ = some (.slice none 0 0) := (blk_cell BK223.out 1).trans rfl; have hfz12_0 := blk_frozen BK223.out 0; have hfz12_1 := blk_frozen BK223.out 1; obtain ⟨Ao13, co13, eo13⟩ := Kd.V_slice HO231.out; subst eo13))
      repeat (go_quiet (first | ((with_reducible refine gate_dst (N := 4) rfl ?_); (try (refine gate_guard (by rfl) ?_; dsimp only)); refine box_event ?hg (N := 4) ?hd (cs := #[.bool false, .slice none 0 0]) (t := 29) ?hr ?_; (case hd => rfl); (case hg => rfl); (case hr => first | (go_simp; done) | (go_simp; rfl)); intro gb223 hg w10 hbox hb; have n0_ := a0_ (below_step (by repeat (first | (with_reducible first | exact HB.out | apply b1_ | apply b2_ | apply b3_) | exact HB.out)) hb); have n1_ := a0_ (hbox); have n2_ := a0_ ((by rw [hg]; exact (below_size (by repeat (first | (with_reducible first | exact HB.out | apply b1_ | apply b2_ | apply b3_) | exact HB.out))) : w.heap.size ≤ gb223)); have n3_ := a0_ ((by rw [hg]; exact (below_size (by repeat (first | (with_reducible first | exact HB.out | apply b1_ | apply b2_ | apply b3_) | exact HB.out))) : w.heap.size ≤ gb223)); clear HB; have HB := n0_; have BK223 := n1_; have GW223 := n2_; have GE223 := n3_; clear n0_ n1_ n2_ n3_; clear hb hbox hg) | (go_at_call 27; (with_reducible refine (laws_wordsOf.calls k a0 t224 true _ A3.out).mono ?_); rintro e w' ⟨rfl, ⟨nd, rfl⟩⟩; (try first | exact ⟨rfl, _, World.drewN_drewN _ _ _⟩ | exact ⟨rfl, _, Eq.trans (World.drewN_drewN _ _ _) (congrArg (World.drewN _) (Nat.add_assoc _ _ _))⟩); have p226 : 0 ≤ (0 : Int) := (by omega); have q226 : 0 < (l1.length : Int) := d1_ (by first | (with_reducible assumption) | assumption); obtain ⟨ad226, e226, hx226_0⟩ := Kd.at_int HR1.out 0 p226 q226; cases e226; have qi226 : (0 < l1.length) = True := eq_true (by omega); (try rw [show ((0 : Int)).toNat = 0 from rfl] at hx226_0); (try rw [Addr.add_zero'] at hx226_0); replace hx226_0 := (HB.out.cell (World.block_lt_of_cell? w _ hx226_0)).trans hx226_0; replace p226 := eq_true p226; replace q226 := eq_true q226; have p227 : 0 ≤ (0 : Int) := (by omega); have q227 : 0 < (l1.length : Int) := d1_ (by first | (with_reducible assumption) | assumption); obtain ⟨ad227, e227, hx227_0⟩ := Kd.at_int HR1.out 0 p227 q227; obtain rfl : ad226 = ad227 := (by injection e227); have qi227 : (0 < l1.length) = True := eq_true (by omega); (try rw [show ((0 : Int)).toNat = 0 from rfl] at hx227_0); (try rw [Addr.add_zero'] at hx227_0); replace hx227_0 := (HB.out.cell (World.block_lt_of_cell? w _ hx227_0)).trans hx227_0; replace p227 := eq_true p227; replace q227 := eq_true q227) | (go_at_call 28; (with_reducible refine (spec_FromWords.calls k _ _ l1 t228 t229 _ ?side1 ?side2 A9.out).mono ?_); (case side1 => repeat (first | exact (Kd.C_below HR1.out (by repeat (first | (with_reducible first | exact HB.out | apply b1_ | apply b2_ | apply b3_ | refine b4_ ?_ GE223.out) | exact HB.out))) | (with_reducible refine Kd.C_alloc ?_ _) | (with_reducible refine Kd.C_drewN ?_ _) | (with_reducible refine Kd.C_drew ?_))); (case side2 => exact HC1.out); rintro e w11 ⟨v230, rfl, ho0, hb⟩; have n0_ := a0_ (Kd.V_lower (v4_ (ok' := fun k_ => (w.heap.size ≤ k_) ∧ k_ ≠ gb223) ho0 (fun k_ hk_ => ⟨(Nat.le_trans (below_size (by repeat (first | (with_reducible first | exact HB.out | apply b1_ | apply b2_ | apply b3_ | refine b4_ ?_ GE223.out) | exact HB.out))) hk_), (Kd.freshB (g := gb223) (o := .cells #[.bool false, .slice none 0 0] 29 (0, 0)) (by (with_reducible repeat (first | refine k1_ ?_ _ | refine k2_ ?_ | refine k3_ ?_ _)); exact BK223.out) k_ hk_)⟩)) (below_size (by repeat (first | (with_reducible first | exact HB.out | apply b1_ | apply b2_ | apply b3_ | refine b4_ ?_ GE223.out) | exact HB.out)))); have n1_ := a0_ (blk_below (g := gb223) (o := .cells #[.bool false, .slice none 0 0] 29 (0, 0)) (by (with_reducible repeat (first | refine k1_ ?_ _ | refine k2_ ?_ | refine k3_ ?_ _)); exact BK223.out) hb); have n2_ := a0_ (below_step (by repeat (first | (with_reducible first | exact HB.out | apply b1_ | apply b2_ | apply b3_ | refine b4_ ?_ GE223.out) | exact HB.out)) hb); clear BK223; clear HB; have HO231 := n0_; have BK223 := n1_; have HB := n2_; clear n0_ n1_ n2_; (try clear hb); (try clear hb2); (try clear hk); (try clear hi); (try clear ho0); have hcz12_0 : w11.cell? ⟨gb223, 0, none⟩ = some (.bool false) := (blk_cell BK223.out 0).trans rfl; have hcz12_1 : w11.cell? ⟨gb223, 1, none⟩ = some (.slice none 0 0) := (blk_cell BK223.out 1).trans rfl; have hfz12_0 := blk_frozen BK223.out 0; have hfz12_1 := blk_frozen BK223.out 1; obtain ⟨Ao13, co13, eo13⟩ := Kd.V_slice HO231.out; subst eo13)); try go_wp2_with (first | ((with_reducible refine gate_dst (N := 4) rfl ?_); (try (refine gate_guard (by rfl) ?_; dsimp only)); refine box_event ?hg (N := 4) ?hd (cs := #[.bool false, .slice none 0 0]) (t := 29) ?hr ?_; (case hd => rfl); (case hg => rfl); (case hr => first | (go_simp; done) | (go_simp; rfl)); intro gb223 hg w10 hbox hb; have n0_ := a0_ (below_step (by repeat (first | (with_reducible first | exact HB.out | apply b1_ | apply b2_ | apply b3_) | exact HB.out)) hb); have n1_ := a0_ (hbox); have n2_ := a0_ ((by rw [hg]; exact (below_size (by repeat (first | (with_reducible first | exact HB.out | apply b1_ | apply b2_ | apply b3_) | exact HB.out))) : w.heap.size ≤ gb223)); have n3_ := a0_ ((by rw [hg]; exact (below_size (by repeat (first | (with_reducible first | exact HB.out | apply b1_ | apply b2_ | apply b3_) | exact HB.out))) : w.heap.size ≤ gb223)); clear HB; have HB := n0_; have BK223 := n1_; have GW223 := n2_; have GE223 := n3_; clear n0_ n1_ n2_ n3_; clear hb hbox hg) | (go_at_call 27; (with_reducible refine (laws_wordsOf.calls k a0 t224 true _ A3.out).mono ?_); rintro e w' ⟨rfl, ⟨nd, rfl⟩⟩; (try first | exact ⟨rfl, _, World.drewN_drewN _ _ _⟩ | exact ⟨rfl, _, Eq.trans (World.drewN_drewN _ _ _) (congrArg (World.drewN _) (Nat.add_assoc _ _ _))⟩); have p226 : 0 ≤ (0 : Int) := (by omega); have q226 : 0 < (l1.length : Int) := d1_ (by first | (with_reducible assumption) | assumption); obtain ⟨ad226, e226, hx226_0⟩ := Kd.at_int HR1.out 0 p226 q226; cases e226; have qi226 : (0 < l1.length) = True := eq_true (by omega); (try rw [show ((0 : Int)).toNat = 0 from rfl] at hx226_0); (try rw [Addr.add_zero'] at hx226_0); replace hx226_0 := (HB.out.cell (World.block_lt_of_cell? w _ hx226_0)).trans hx226_0; replace p226 := eq_true p226; replace q226 := eq_true q226; have p227 : 0 ≤ (0 : Int) := (by omega); have q227 : 0 < (l1.length : Int) := d1_ (by first | (with_reducible assumption) | assumption); obtain ⟨ad227, e227, hx227_0⟩ := Kd.at_int HR1.out 0 p227 q227; obtain rfl : ad226 = ad227 := (by injection e227); have qi227 : (0 < l1.length) = True := eq_true (by omega); (try rw [show ((0 : Int)).toNat = 0 from rfl] at hx227_0); (try rw [Addr.add_zero'] at hx227_0); replace hx227_0 := (HB.out.cell (World.block_lt_of_cell? w _ hx227_0)).trans hx227_0; replace p227 := eq_true p227; replace q227 := eq_true q227) | (go_at_call 28; (with_reducible refine (spec_FromWords.calls k _ _ l1 t228 t229 _ ?side1 ?side2 A9.out).mono ?_); (case side1 => repeat (first | exact (Kd.C_below HR1.out (by repeat (first | (with_reducible first | exact HB.out | apply b1_ | apply b2_ | apply b3_ | refine b4_ ?_ GE223.out) | exact HB.out))) | (with_reducible refine Kd.C_alloc ?_ _) | (with_reducible refine Kd.C_drewN ?_ _) | (with_reducible refine Kd.C_drew ?_))); (case side2 => exact HC1.out); rintro e w11 ⟨v230, rfl, ho0, hb⟩; have n0_ := a0_ (Kd.V_lower (v4_ (ok' := fun k_ => (w.heap.size ≤ k_) ∧ k_ ≠ gb223) ho0 (fun k_ hk_ => ⟨(Nat.le_trans (below_size (by repeat (first | (with_reducible first | exact HB.out | apply b1_ | apply b2_ | apply b3_ | refine b4_ ?_ GE223.out) | exact HB.out))) hk_), (Kd.freshB (g := gb223) (o := .cells #[.bool false, .slice none 0 0] 29 (0, 0)) (by (with_reducible repeat (first | refine k1_ ?_ _ | refine k2_ ?_ | refine k3_ ?_ _)); exact BK223.out) k_ hk_)⟩)) (below_size (by repeat (first | (with_reducible first | exact HB.out | apply b1_ | apply b2_ | apply b3_ | refine b4_ ?_ GE223.out) | exact HB.out)))); have n1_ := a0_ (blk_below (g := gb223) (o := .cells #[.bool false, .slice none 0 0] 29 (0, 0)) (by (with_reducible repeat (first | refine k1_ ?_ _ | refine k2_ ?_ | refine k3_ ?_ _)); exact BK223.out) hb); have n2_ := a0_ (below_step (by repeat (first | (with_reducible first | exact HB.out | apply b1_ | apply b2_ | apply b3_ | refine b4_ ?_ GE223.out) | exact HB.out)) hb); clear BK223; clear HB; have HO231 := n0_; have BK223 := n1_; have HB := n2_; clear n0_ n1_ n2_; (try clear hb); (try clear hb2); (try clear hk); (try clear hi); (try clear ho0); have hcz12_0 : w11.cell? ⟨gb223, 0, none⟩ = some (.bool false) := (blk_cell BK223.out 0).trans rfl; have hcz12_1 : w11.cell? ⟨gb223, 1, none⟩ = some (.slice none 0 0) := (blk_cell BK223.out 1).trans rfl; have hfz12_0 := blk_frozen BK223.out 0; have hfz12_1 := blk_frozen BK223.out 1; obtain ⟨Ao13, co13, eo13⟩ := Kd.V_slice HO231.out; subst eo13)))
      refine bodyPost_ret (results_ct rfl _ _ gb223 29 #[.bool t228, .slice Ao13 t229.length co13] (0, 0) _ rfl (by (with_reducible repeat (first | refine k1_ ?_ _ | refine k2_ ?_ | refine k3_ ?_ _)); refine blk_put (cs := #[.bool t228, .slice none 0 0]) ?_ 1 _ rfl; (with_reducible repeat (first | refine k1_ ?_ _ | refine k2_ ?_ | refine k3_ ?_ _)); refine blk_put (cs := #[.bool false, .slice none 0 0]) ?_ 0 _ rfl; (with_reducible repeat (first | refine k1_ ?_ _ | refine k2_ ?_ | refine k3_ ?_ _)); exact BK223.out) Try.underlying29 rfl (by kernel_rfl)) rfl ?_
      exact ⟨_, by first | rfl | (simp [e1_, e2_] <;> rfl) | (simp [*, e1_, e2_] <;> rfl), by (with_reducible repeat (first | apply v1_ | apply v2_ | apply v3_)); exact v4_ (v5_ (p := ⟨gb223, 1, none⟩) (v5_ (p := ⟨gb223, 0, none⟩) (v4_ HO231.out (fun k_ hk => (⟨hk, hk.2⟩ : _ ∧ k_ ≠ gb223))) (fun _ hk => hk.2) (.bool t228)) (fun _ hk => hk.2) (.slice Ao13 t229.length co13)) (fun _ hk => hk.1.1), by repeat (first | (with_reducible first | exact HB.out | apply b1_ | apply b2_ | apply b3_ | refine b4_ ?_ GE223.out) | exact HB.out)⟩
     ·
      rw [if_neg c8] at H
      have c8b0 : ((IntKind.u64.wrap (wrap64 (wrap32 (rd l1 0)))) == (rd l1 0)) = false := beq_eq_false_iff_ne.mpr c8
      have c8b1 : ((IntKind.u64.wrap (wrap64 (wrap32 (rd l1 0)))) != (rd l1 0)) = true := bne_iff_ne.mpr c8
      simp only [Option.some.injEq, Prod.mk.injEq] at H
      obtain ⟨rfl, rfl, rfl⟩ := H
      go_enter Try.func9, Try.ntmps9
      go_wp2_with (first | ((with_reducible refine gate_dst (N := 4) rfl ?_); (try (refine gate_guard (by rfl) ?_; dsimp only)); refine box_event ?hg (N := 4) ?hd (cs := #[.bool false, .slice none 0 0]) (t := 29) ?hr ?_; (case hd => rfl); (case hg => rfl); (case hr => first | (go_simp; done) | (go_simp; rfl)); intro gb223 hg w14 hbox hb; have n0_ := a0_ (below_step (by repeat (first | (with_reducible first | exact HB.out | apply b1_ | apply b2_ | apply b3_) | exact HB.out)) hb); have n1_ := a0_ (hbox); have n2_ := a0_ ((by rw [hg]; exact (below_size (by repeat (first | (with_reducible first | exact HB.out | apply b1_ | apply b2_ | apply b3_) | exact HB.out))) : w.heap.size ≤ gb223)); have n3_ := a0_ ((by rw [hg]; exact (below_size (by repeat (first | (with_reducible first | exact HB.out | apply b1_ | apply b2_ | apply b3_) | exact HB.out))) : w.heap.size ≤ gb223)); clear HB; have HB := n0_; have BK223 := n1_; have GW223 := n2_; have GE223 := n3_; clear n0_ n1_ n2_ n3_; clear hb hbox hg) | (go_at_call 27; (with_reducible refine (laws_wordsOf.calls k a0 t224 true _ A3.out).mono ?_); rintro e w' ⟨rfl, ⟨nd, rfl⟩⟩; (try first | exact ⟨rfl, _, World.drewN_drewN _ _ _⟩ | exact ⟨rfl, _, Eq.trans (World.drewN_drewN _ _ _) (congrArg (World.drewN _) (Nat.add_assoc _ _ _))⟩); have p226 : 0 ≤ (0 : Int) := (by omega); have q226 : 0 < (l1.length : Int) := d1_ (by first | (with_reducible assumption) | assumption); obtain ⟨ad226, e226, hx226_0⟩ := Kd.at_int HR1.out 0 p226 q226; cases e226; have qi226 : (0 < l1.length) = True := eq_true (by omega); (try rw [show ((0 : Int)).toNat = 0 from rfl] at hx226_0); (try rw [Addr.add_zero'] at hx226_0); replace hx226_0 := (HB.out.cell (World.block_lt_of_cell? w _ hx226_0)).trans hx226_0; replace p226 := eq_true p226; replace q226 := eq_true q226; have p227 : 0 ≤ (0 : Int) := (by omega); have q227 : 0 < (l1.length : Int) := d1_ (by first | (with_reducible assumption) | assumption); obtain ⟨ad227, e227, hx227_0⟩ := Kd.at_int HR1.out 0 p227 q227; obtain rfl : ad226 = ad227 := (by injection e227); have qi227 : (0 < l1.length) = True := eq_true (by omega); (try rw [show ((0 : Int)).toNat = 0 from rfl] at hx227_0); (try rw [Addr.add_zero'] at hx227_0); replace hx227_0 := (HB.out.cell (World.block_lt_of_cell? w _ hx227_0)).trans hx227_0; replace p227 := eq_true p227; replace q227 := eq_true q227; have hcz15_0 : w14.cell? ⟨gb223, 0, none⟩ = some (.bool false) := (blk_cell BK223.out 0).trans rfl; have hcz15_1 : w14.cell? ⟨gb223, 1, none⟩ = some (.slice none 0 0) := (blk_cell BK223.out 1).trans rfl; have hfz15_0 := blk_frozen BK223.out 0; have hfz15_1 := blk_frozen BK223.out 1))
      repeat (go_quiet (first | ((with_reducible refine gate_dst (N := 4) rfl ?_); (try (refine gate_guard (by rfl) ?_; dsimp only)); refine box_event ?hg (N := 4) ?hd (cs := #[.bool false, .slice none 0 0]) (t := 29) ?hr ?_; (case hd => rfl); (case hg => rfl); (case hr => first | (go_simp; done) | (go_simp; rfl)); intro gb223 hg w14 hbox hb; have n0_ := a0_ (below_step (by repeat (first | (with_reducible first | exact HB.out | apply b1_ | apply b2_ | apply b3_) | exact HB.out)) hb); have n1_ := a0_ (hbox); have n2_ := a0_ ((by rw [hg]; exact (below_size (by repeat (first | (with_reducible first | exact HB.out | apply b1_ | apply b2_ | apply b3_) | exact HB.out))) : w.heap.size ≤ gb223)); have n3_ := a0_ ((by rw [hg]; exact (below_size (by repeat (first | (with_reducible first | exact HB.out | apply b1_ | apply b2_ | apply b3_) | exact HB.out))) : w.heap.size ≤ gb223)); clear HB; have HB := n0_; have BK223 := n1_; have GW223 := n2_; have GE223 := n3_; clear n0_ n1_ n2_ n3_; clear hb hbox hg) | (go_at_call 27; (with_reducible refine (laws_wordsOf.calls k a0 t224 true _ A3.out).mono ?_); rintro e w' ⟨rfl, ⟨nd, rfl⟩⟩; (try first | exact ⟨rfl, _, World.drewN_drewN _ _ _⟩ | exact ⟨rfl, _, Eq.trans (World.drewN_drewN _ _ _) (congrArg (World.drewN _) (Nat.add_assoc _ _ _))⟩); have p226 : 0 ≤ (0 : Int) := (by omega); have q226 : 0 < (l1.length : Int) := d1_ (by first | (with_reducible assumption) | assumption); obtain ⟨ad226, e226, hx226_0⟩ := Kd.at_int HR1.out 0 p226 q226; cases e226; have qi226 : (0 < l1.length) = True := eq_true (by omega); (try rw [show ((0 : Int)).toNat = 0 from rfl] at hx226_0); (try rw [Addr.add_zero'] at hx226_0); replace hx226_0 := (HB.out.cell (World.block_lt_of_cell? w _ hx226_0)).trans hx226_0; replace p226 := eq_true p226; replace q226 := eq_true q226; have p227 : 0 ≤ (0 : Int) := (by omega); have q227 : 0 < (l1.length : Int) := d1_ (by first | (with_reducible assumption) | assumption); obtain ⟨ad227, e227, hx227_0⟩ := Kd.at_int HR1.out 0 p227 q227; obtain rfl : ad226 = ad227 := (by injection e227); have qi227 : (0 < l1.length) = True := eq_true (by omega); (try rw [show ((0 : Int)).toNat = 0 from rfl] at hx227_0); (try rw [Addr.add_zero'] at hx227_0); replace hx227_0 := (HB.out.cell (World.block_lt_of_cell? w _ hx227_0)).trans hx227_0; replace p227 := eq_true p227; replace q227 := eq_true q227; have hcz15_0 : w14.cell? ⟨gb223, 0, none⟩ = some (.bool false) := (blk_cell BK223.out 0).trans rfl; have hcz15_1 : w14.cell? ⟨gb223, 1, none⟩ = some (.slice none 0 0) := (blk_cell BK223.out 1).trans rfl; have hfz15_0 := blk_frozen BK223.out 0; have hfz15_1 := blk_frozen BK223.out 1)); try go_wp2_with (first | ((with_reducible refine gate_dst (N := 4) rfl ?_); (try (refine gate_guard (by rfl) ?_; dsimp only)); refine box_event ?hg (N := 4) ?hd (cs := #[.bool false, .slice none 0 0]) (t := 29) ?hr ?_; (case hd => rfl); (case hg => rfl); (case hr => first | (go_simp; done) | (go_simp; rfl)); intro gb223 hg w14 hbox hb; have n0_ := a0_ (below_step (by repeat (first | (with_reducible first | exact HB.out | apply b1_ | apply b2_ | apply b3_) | exact HB.out)) hb); have n1_ := a0_ (hbox); have n2_ := a0_ ((by rw [hg]; exact (below_size (by repeat (first | (with_reducible first | exact HB.out | apply b1_ | apply b2_ | apply b3_) | exact HB.out))) : w.heap.size ≤ gb223)); have n3_ := a0_ ((by rw [hg]; exact (below_size (by repeat (first | (with_reducible first | exact HB.out | apply b1_ | apply b2_ | apply b3_) | exact HB.out))) : w.heap.size ≤ gb223)); clear HB; have HB := n0_; have BK223 := n1_; have GW223 := n2_; have GE223 := n3_; clear n0_ n1_ n2_ n3_; clear hb hbox hg) | (go_at_call 27; (with_reducible refine (laws_wordsOf.calls k a0 t224 true _ A3.out).mono ?_); rintro e w' ⟨rfl, ⟨nd, rfl⟩⟩; (try first | exact ⟨rfl, _, World.drewN_drewN _ _ _⟩ | exact ⟨rfl, _, Eq.trans (World.drewN_drewN _ _ _) (congrArg (World.drewN _) (Nat.add_assoc _ _ _))⟩); have p226 : 0 ≤ (0 : Int) := (by omega); have q226 : 0 < (l1.length : Int) := d1_ (by first | (with_reducible assumption) | assumption); obtain ⟨ad226, e226, hx226_0⟩ := Kd.at_int HR1.out 0 p226 q226; cases e226; have qi226 : (0 < l1.length) = True := eq_true (by omega); (try rw [show ((0 : Int)).toNat = 0 from rfl] at hx226_0); (try rw [Addr.add_zero'] at hx226_0); replace hx226_0 := (HB.out.cell (World.block_lt_of_cell? w _ hx226_0)).trans hx226_0; replace p226 := eq_true p226; replace q226 := eq_true q226; have p227 : 0 ≤ (0 : Int) := (by omega); have q227 : 0 < (l1.length : Int) := d1_ (by first | (with_reducible assumption) | assumption); obtain ⟨ad227, e227, hx227_0⟩ := Kd.at_int HR1.out 0 p227 q227; obtain rfl : ad226 = ad227 := (by injection e227); have qi227 : (0 < l1.length) = True := eq_true (by omega); (try rw [show ((0 : Int)).toNat = 0 from rfl] at hx227_0); (try rw [Addr.add_zero'] at hx227_0); replace hx227_0 := (HB.out.cell (World.block_lt_of_cell? w _ hx227_0)).trans hx227_0; replace p227 := eq_true p227; replace q227 := eq_true q227; have hcz15_0 : w14.cell? ⟨gb223, 0, none⟩ = some (.bool false) := (blk_cell BK223.out 0).trans rfl; have hcz15_1 : w14.cell? ⟨gb223, 1, none⟩ = some (.slice none 0 0) := (blk_cell BK223.out 1).trans rfl; have hfz15_0 := blk_frozen BK223.out 0; have hfz15_1 := blk_frozen BK223.out 1)))
      refine bodyPost_ret (results_ct rfl _ _ gb223 29 #[.bool false, .slice none 0 0] (0, 0) _ rfl (by (with_reducible repeat (first | refine k1_ ?_ _ | refine k2_ ?_ | refine k3_ ?_ _)); refine blk_put (cs := #[.bool false, .slice none 0 0]) ?_ 1 _ rfl; (with_reducible repeat (first | refine k1_ ?_ _ | refine k2_ ?_ | refine k3_ ?_ _)); refine blk_put (cs := #[.bool false, .slice none 0 0]) ?_ 0 _ rfl; (with_reducible repeat (first | refine k1_ ?_ _ | refine k2_ ?_ | refine k3_ ?_ _)); exact BK223.out) Try.underlying29 rfl (by kernel_rfl)) rfl ?_
      exact ⟨_, by first | rfl | (simp [e1_, e2_] <;> rfl) | (simp [*, e1_, e2_] <;> rfl), Kd.V_nil _ _ _ _ _, by repeat (first | (with_reducible first | exact HB.out | apply b1_ | apply b2_ | apply b3_ | refine b4_ ?_ GE223.out) | exact HB.out)⟩
    ·
     rw [if_neg c7] at H
     exact absurd H (by simp)
   ·
    rw [if_neg c6] at H
    have c6b0 : (a0 == 32) = false := beq_eq_false_iff_ne.mpr c6
    have c6b1 : (a0 != 32) = true := bne_iff_ne.mpr c6
    replace H := Option.bind_eq_some_iff.mp H
    obtain ⟨⟨t232, t233⟩, A160, H⟩ := H
    replace H : (some (t232, t233, true)) = some (r1, r2, r3) := H
    have A16 := a0_ A160
    clear A160
    simp only [Option.some.injEq, Prod.mk.injEq] at H
    obtain ⟨rfl, rfl, rfl⟩ := H
    go_enter Try.func9, Try.ntmps9
    go_wp2_with (first | ((with_reducible refine gate_dst (N := 4) rfl ?_); (try (refine gate_guard (by rfl) ?_; dsimp only)); refine box_event ?hg (N := 4) ?hd (cs := #[.bool false, .slice none 0 0]) (t := 29) ?hr ?_; (case hd => rfl); (case hg => rfl); (case hr => first | (go_simp; done) | (go_simp; rfl)); intro gb223 hg w17 hbox hb; have n0_ := a0_ (below_step (by repeat (first | (with_reducible first | exact HB.out | apply b1_ | apply b2_ | apply b3_) | exact HB.out)) hb); have n1_ := a0_ (hbox); have n2_ := a0_ ((by rw [hg]; exact (below_size (by repeat (first | (with_reducible first | exact HB.out | apply b1_ | apply b2_ | apply b3_) | exact HB.out))) : w.heap.size ≤ gb223)); have n3_ := a0_ ((by rw [hg]; exact (below_size (by repeat (first | (with_reducible first | exact HB.out | apply b1_ | apply b2_ | apply b3_) | exact HB.out))) : w.heap.size ≤ gb223)); clear HB; have HB := n0_; have BK223 := n1_; have GW223 := n2_; have GE223 := n3_; clear n0_ n1_ n2_ n3_; clear hb hbox hg) | (go_at_call 27; (with_reducible refine (laws_wordsOf.calls k a0 t224 true _ A3.out).mono ?_); rintro e w' ⟨rfl, ⟨nd, rfl⟩⟩; (try first | exact ⟨rfl, _, World.drewN_drewN _ _ _⟩ | exact ⟨rfl, _, Eq.trans (World.drewN_drewN _ _ _) (congrArg (World.drewN _) (Nat.add_assoc _ _ _))⟩)) | (go_at_call 28; (with_reducible refine (spec_FromWords.calls k _ _ l1 t232 t233 _ ?side1 ?side2 A16.out).mono ?_); (case side1 => repeat (first | exact (Kd.C_below HR1.out (by repeat (first | (with_reducible first | exact HB.out | apply b1_ | apply b2_ | apply b3_ | refine b4_ ?_ GE223.out) | exact HB.out))) | (with_reducible refine Kd.C_alloc ?_ _) | (with_reducible refine Kd.C_drewN ?_ _) | (with_reducible refine Kd.C_drew ?_))); (case side2 => exact HC1.out); rintro e w18 ⟨v234, rfl, ho0, hb⟩; have n0_ := a0_ (Kd.V_lower (v4_ (ok' := fun k_ => (w.heap.size ≤ k_) ∧ k_ ≠ gb223) ho0 (fun k_ hk_ => ⟨(Nat.le_trans (below_size (by repeat (first | (with_reducible first | exact HB.out | apply b1_ | apply b2_ | apply b3_ | refine b4_ ?_ GE223.out) | exact HB.out))) hk_), (Kd.freshB (g := gb223) (o := .cells #[.bool false, .slice none 0 0] 29 (0, 0)) (by (with_reducible repeat (first | refine k1_ ?_ _ | refine k2_ ?_ | refine k3_ ?_ _)); exact BK223.out) k_ hk_)⟩)) (below_size (by repeat (first | (with_reducible first | exact HB.out | apply b1_ | apply b2_ | apply b3_ | refine b4_ ?_ GE223.out) | exact HB.out)))); have n1_ := a0_ (blk_below (g := gb223) (o := .cells #[.bool false, .slice none 0 0] 29 (0, 0)) (by (with_reducible repeat (first | refine k1_ ?_ _ | refine k2_ ?_ | refine k3_ ?_ _)); exact BK223.out) hb); have n2_ := a0_ (below_step (by repeat (first | (with_reducible first | exact HB.out | apply b1_ | apply b2_ | apply b3_ | refine b4_ ?_ GE223.out) | exact HB.out)) hb); clear BK223; clear HB; have HO235 := n0_; have BK223 := n1_; have HB := n2_; clear n0_ n1_ n2_; (try clear hb); (try clear hb2); (try clear hk); (try clear hi); (try clear ho0); have hcz19_0 : w18.cell? ⟨gb223, 0, none⟩ = some (.bool false) := (blk_cell BK223.out 0).trans rfl; have hcz19_1 : w18.cell? ⟨gb223, 1, none⟩ = some (.slice none 0 0) := (blk_cell BK223.out 1).trans rfl; have hfz19_0 := blk_frozen BK223.out 0; have hfz19_1 := blk_frozen BK223.out 1; obtain ⟨Ao20, co20, eo20⟩ := Kd.V_slice HO235.out; subst eo20))
    repeat (go_quiet (first | ((with_reducible refine gate_dst (N := 4) rfl ?_); (try (refine gate_guard (by rfl) ?_; dsimp only)); refine box_event ?hg (N := 4) ?hd (cs := #[.bool false, .slice none 0 0]) (t := 29) ?hr ?_; (case hd => rfl); (case hg => rfl); (case hr => first | (go_simp; done) | (go_simp; rfl)); intro gb223 hg w17 hbox hb; have n0_ := a0_ (below_step (by repeat (first | (with_reducible first | exact HB.out | apply b1_ | apply b2_ | apply b3_) | exact HB.out)) hb); have n1_ := a0_ (hbox); have n2_ := a0_ ((by rw [hg]; exact (below_size (by repeat (first | (with_reducible first | exact HB.out | apply b1_ | apply b2_ | apply b3_) | exact HB.out))) : w.heap.size ≤ gb223)); have n3_ := a0_ ((by rw [hg]; exact (below_size (by repeat (first | (with_reducible first | exact HB.out | apply b1_ | apply b2_ | apply b3_) | exact HB.out))) : w.heap.size ≤ gb223)); clear HB; have HB := n0_; have BK223 := n1_; have GW223 := n2_; have GE223 := n3_; clear n0_ n1_ n2_ n3_; clear hb hbox hg) | (go_at_call 27; (with_reducible refine (laws_wordsOf.calls k a0 t224 true _ A3.out).mono ?_); rintro e w' ⟨rfl, ⟨nd, rfl⟩⟩; (try first | exact ⟨rfl, _, World.drewN_drewN _ _ _⟩ | exact ⟨rfl, _, Eq.trans (World.drewN_drewN _ _ _) (congrArg (World.drewN _) (Nat.add_assoc _ _ _))⟩)) | (go_at_call 28; (with_reducible refine (spec_FromWords.calls k _ _ l1 t232 t233 _ ?side1 ?side2 A16.out).mono ?_); (case side1 => repeat (first | exact (Kd.C_below HR1.out (by repeat (first | (with_reducible first | exact HB.out | apply b1_ | apply b2_ | apply b3_ | refine b4_ ?_ GE223.out) | exact HB.out))) | (with_reducible refine Kd.C_alloc ?_ _) | (with_reducible refine Kd.C_drewN ?_ _) | (with_reducible refine Kd.C_drew ?_))); (case side2 => exact HC1.out); rintro e w18 ⟨v234, rfl, ho0, hb⟩; have n0_ := a0_ (Kd.V_lower (v4_ (ok' := fun k_ => (w.heap.size ≤ k_) ∧ k_ ≠ gb223) ho0 (fun k_ hk_ => ⟨(Nat.le_trans (below_size (by repeat (first | (with_reducible first | exact HB.out | apply b1_ | apply b2_ | apply b3_ | refine b4_ ?_ GE223.out) | exact HB.out))) hk_), (Kd.freshB (g := gb223) (o := .cells #[.bool false, .slice none 0 0] 29 (0, 0)) (by (with_reducible repeat (first | refine k1_ ?_ _ | refine k2_ ?_ | refine k3_ ?_ _)); exact BK223.out) k_ hk_)⟩)) (below_size (by repeat (first | (with_reducible first | exact HB.out | apply b1_ | apply b2_ | apply b3_ | refine b4_ ?_ GE223.out) | exact HB.out)))); have n1_ := a0_ (blk_below (g := gb223) (o := .cells #[.bool false, .slice none 0 0] 29 (0, 0)) (by (with_reducible repeat (first | refine k1_ ?_ _ | refine k2_ ?_ | refine k3_ ?_ _)); exact BK223.out) hb); have n2_ := a0_ (below_step (by repeat (first | (with_reducible first | exact HB.out | apply b1_ | apply b2_ | apply b3_ | refine b4_ ?_ GE223.out) | exact HB.out)) hb); clear BK223; clear HB; have HO235 := n0_; have BK223 := n1_; have HB := n2_; clear n0_ n1_ n2_; (try clear hb); (try clear hb2); (try clear hk); (try clear hi); (try clear ho0); have hcz19_0 : w18.cell? ⟨gb223, 0, none⟩ = some (.bool false) := (blk_cell BK223.out 0).trans rfl; have hcz19_1 : w18.cell? ⟨gb223, 1, none⟩ = some (.slice none 0 0) := (blk_cell BK223.out 1).trans rfl; have hfz19_0 := blk_frozen BK223.out 0; have hfz19_1 := blk_frozen BK223.out 1; obtain ⟨Ao20, co20, eo20⟩ := Kd.V_slice HO235.out; subst eo20)); try go_wp2_with (first | ((with_reducible refine gate_dst (N := 4) rfl ?_); (try (refine gate_guard (by rfl) ?_; dsimp only)); refine box_event ?hg (N := 4) ?hd (cs := #[.bool false, .slice none 0 0]) (t := 29) ?hr ?_; (case hd => rfl); (case hg => rfl); (case hr => first | (go_simp; done) | (go_simp; rfl)); intro gb223 hg w17 hbox hb; have n0_ := a0_ (below_step (by repeat (first | (with_reducible first | exact HB.out | apply b1_ | apply b2_ | apply b3_) | exact HB.out)) hb); have n1_ := a0_ (hbox); have n2_ := a0_ ((by rw [hg]; exact (below_size (by repeat (first | (with_reducible first | exact HB.out | apply b1_ | apply b2_ | apply b3_) | exact HB.out))) : w.heap.size ≤ gb223)); have n3_ := a0_ ((by rw [hg]; exact (below_size (by repeat (first | (with_reducible first | exact HB.out | apply b1_ | apply b2_ | apply b3_) | exact HB.out))) : w.heap.size ≤ gb223)); clear HB; have HB := n0_; have BK223 := n1_; have GW223 := n2_; have GE223 := n3_; clear n0_ n1_ n2_ n3_; clear hb hbox hg) | (go_at_call 27; (with_reducible refine (laws_wordsOf.calls k a0 t224 true _ A3.out).mono ?_); rintro e w' ⟨rfl, ⟨nd, rfl⟩⟩; (try first | exact ⟨rfl, _, World.drewN_drewN _ _ _⟩ | exact ⟨rfl, _, Eq.trans (World.drewN_drewN _ _ _) (congrArg (World.drewN _) (Nat.add_assoc _ _ _))⟩)) | (go_at_call 28; (with_reducible refine (spec_FromWords.calls k _ _ l1 t232 t233 _ ?side1 ?side2 A16.out).mono ?_); (case side1 => repeat (first | exact (Kd.C_below HR1.out (by repeat (first | (with_reducible first | exact HB.out | apply b1_ | apply b2_ | apply b3_ | refine b4_ ?_ GE223.out) | exact HB.out))) | (with_reducible refine Kd.C_alloc ?_ _) | (with_reducible refine Kd.C_drewN ?_ _) | (with_reducible refine Kd.C_drew ?_))); (case side2 => exact HC1.out); rintro e w18 ⟨v234, rfl, ho0, hb⟩; have n0_ := a0_ (Kd.V_lower (v4_ (ok' := fun k_ => (w.heap.size ≤ k_) ∧ k_ ≠ gb223) ho0 (fun k_ hk_ => ⟨(Nat.le_trans (below_size (by repeat (first | (with_reducible first | exact HB.out | apply b1_ | apply b2_ | apply b3_ | refine b4_ ?_ GE223.out) | exact HB.out))) hk_), (Kd.freshB (g := gb223) (o := .cells #[.bool false, .slice none 0 0] 29 (0, 0)) (by (with_reducible repeat (first | refine k1_ ?_ _ | refine k2_ ?_ | refine k3_ ?_ _)); exact BK223.out) k_ hk_)⟩)) (below_size (by repeat (first | (with_reducible first | exact HB.out | apply b1_ | apply b2_ | apply b3_ | refine b4_ ?_ GE223.out) | exact HB.out)))); have n1_ := a0_ (blk_below (g := gb223) (o := .cells #[.bool false, .slice none 0 0] 29 (0, 0)) (by (with_reducible repeat (first | refine k1_ ?_ _ | refine k2_ ?_ | refine k3_ ?_ _)); exact BK223.out) hb); have n2_ := a0_ (below_step (by repeat (first | (with_reducible first | exact HB.out | apply b1_ | apply b2_ | apply b3_ | refine b4_ ?_ GE223.out) | exact HB.out)) hb); clear BK223; clear HB; have HO235 := n0_; have BK223 := n1_; have HB := n2_; clear n0_ n1_ n2_; (try clear hb); (try clear hb2); (try clear hk); (try clear hi); (try clear ho0); have hcz19_0 : w18.cell? ⟨gb223, 0, none⟩ = some (.bool false) := (blk_cell BK223.out 0).trans rfl; have hcz19_1 : w18.cell? ⟨gb223, 1, none⟩ = some (.slice none 0 0) := (blk_cell BK223.out 1).trans rfl; have hfz19_0 := blk_frozen BK223.out 0; have hfz19_1 := blk_frozen BK223.out 1; obtain ⟨Ao20, co20, eo20⟩ := Kd.V_slice HO235.out; subst eo20)))
    refine bodyPost_ret (results_ct rfl _ _ gb223 29 #[.bool t232, .slice Ao20 t233.length co20] (0, 0) _ rfl (by (with_reducible repeat (first | refine k1_ ?_ _ | refine k2_ ?_ | refine k3_ ?_ _)); refine blk_put (cs := #[.bool t232, .slice none 0 0]) ?_ 1 _ rfl; (with_reducible repeat (first | refine k1_ ?_ _ | refine k2_ ?_ | refine k3_ ?_ _)); refine blk_put (cs := #[.bool false, .slice none 0 0]) ?_ 0 _ rfl; (with_reducible repeat (first | refine k1_ ?_ _ | refine k2_ ?_ | refine k3_ ?_ _)); exact BK223.out) Try.underlying29 rfl (by kernel_rfl)) rfl ?_
    exact ⟨_, by first | rfl | (simp [e1_, e2_] <;> rfl) | (simp [*, e1_, e2_] <;> rfl), by (with_reducible repeat (first | apply v1_ | apply v2_ | apply v3_)); exact v4_ (v5_ (p := ⟨gb223, 1, none⟩) (v5_ (p := ⟨gb223, 0, none⟩) (v4_ HO235.out (fun k_ hk => (⟨hk, hk.2⟩ : _ ∧ k_ ≠ gb223))) (fun _ hk => hk.2) (.bool t232)) (fun _ hk => hk.2) (.slice Ao20 t233.length co20)) (fun _ hk => hk.1.1), by repeat (first | (with_reducible first | exact HB.out | apply b1_ | apply b2_ | apply b3_ | refine b4_ ?_ GE223.out) | exact HB.out)⟩
  ·
   rw [if_neg c5] at H
   have c5b0 : ((l1.length : Int) == t224) = false := beq_eq_false_iff_ne.mpr c5
   have c5b1 : ((l1.length : Int) != t224) = true := bne_iff_ne.mpr c5
   simp only [Option.some.injEq, Prod.mk.injEq] at H
   obtain ⟨rfl, rfl, rfl⟩ := H
   go_enter Try.func9, Try.ntmps9
   go_wp2_with (first | ((with_reducible refine gate_dst (N := 4) rfl ?_); (try (refine gate_guard (by rfl) ?_; dsimp only)); refine box_event ?hg (N := 4) ?hd (cs := #[.bool false, .slice none 0 0]) (t := 29) ?hr ?_; (case hd => rfl); (case hg => rfl); (case hr => first | (go_simp; done) | (go_simp; rfl)); intro gb223 hg w21 hbox hb; have n0_ := a0_ (below_step (by repeat (first | (with_reducible first | exact HB.out | apply b1_ | apply b2_ | apply b3_) | exact HB.out)) hb); have n1_ := a0_ (hbox); have n2_ := a0_ ((by rw [hg]; exact (below_size (by repeat (first | (with_reducible first | exact HB.out | apply b1_ | apply b2_ | apply b3_) | exact HB.out))) : w.heap.size ≤ gb223)); have n3_ := a0_ ((by rw [hg]; exact (below_size (by repeat (first | (with_reducible first | exact HB.out | apply b1_ | apply b2_ | apply b3_) | exact HB.out))) : w.heap.size ≤ gb223)); clear HB; have HB := n0_; have BK223 := n1_; have GW223 := n2_; have GE223 := n3_; clear n0_ n1_ n2_ n3_; clear hb hbox hg) | (go_at_call 27; (with_reducible refine (laws_wordsOf.calls k a0 t224 true _ A3.out).mono ?_); rintro e w' ⟨rfl, ⟨nd, rfl⟩⟩; (try first | exact ⟨rfl, _, World.drewN_drewN _ _ _⟩ | exact ⟨rfl, _, Eq.trans (World.drewN_drewN _ _ _) (congrArg (World.drewN _) (Nat.add_assoc _ _ _))⟩); have hcz22_0 : w21.cell? ⟨gb223, 0, none⟩ = some (.bool false) := (blk_cell BK223.out 0).trans rfl; have hcz22_1 : w21.cell? ⟨gb223, 1, none⟩ = some (.slice none 0 0) := (blk_cell BK223.out 1).trans rfl; have hfz22_0 := blk_frozen BK223.out 0; have hfz22_1 := blk_frozen BK223.out 1))
   repeat (go_quiet (first | ((with_reducible refine gate_dst (N := 4) rfl ?_); (try (refine gate_guard (by rfl) ?_; dsimp only)); refine box_event ?hg (N := 4) ?hd (cs := #[.bool false, .slice none 0 0]) (t := 29) ?hr ?_; (case hd => rfl); (case hg => rfl); (case hr => first | (go_simp; done) | (go_simp; rfl)); intro gb223 hg w21 hbox hb; have n0_ := a0_ (below_step (by repeat (first | (with_reducible first | exact HB.out | apply b1_ | apply b2_ | apply b3_) | exact HB.out)) hb); have n1_ := a0_ (hbox); have n2_ := a0_ ((by rw [hg]; exact (below_size (by repeat (first | (with_reducible first | exact HB.out | apply b1_ | apply b2_ | apply b3_) | exact HB.out))) : w.heap.size ≤ gb223)); have n3_ := a0_ ((by rw [hg]; exact (below_size (by repeat (first | (with_reducible first | exact HB.out | apply b1_ | apply b2_ | apply b3_) | exact HB.out))) : w.heap.size ≤ gb223)); clear HB; have HB := n0_; have BK223 := n1_; have GW223 := n2_; have GE223 := n3_; clear n0_ n1_ n2_ n3_; clear hb hbox hg) | (go_at_call 27; (with_reducible refine (laws_wordsOf.calls k a0 t224 true _ A3.out).mono ?_); rintro e w' ⟨rfl, ⟨nd, rfl⟩⟩; (try first | exact ⟨rfl, _, World.drewN_drewN _ _ _⟩ | exact ⟨rfl, _, Eq.trans (World.drewN_drewN _ _ _) (congrArg (World.drewN _) (Nat.add_assoc _ _ _))⟩); have hcz22_0 : w21.cell? ⟨gb223, 0, none⟩ = some (.bool false) := (blk_cell BK223.out 0).trans rfl; have hcz22_1 : w21.cell? ⟨gb223, 1, none⟩ = some (.slice none 0 0) := (blk_cell BK223.out 1).trans rfl; have hfz22_0 := blk_frozen BK223.out 0; have hfz22_1 := blk_frozen BK223.out 1)); try go_wp2_with (first | ((with_reducible refine gate_dst (N := 4) rfl ?_); (try (refine gate_guard (by rfl) ?_; dsimp only)); refine box_event ?hg (N := 4) ?hd (cs := #[.bool false, .slice none 0 0]) (t := 29) ?hr ?_; (case hd => rfl); (case hg => rfl); (case hr => first | (go_simp; done) | (go_simp; rfl)); intro gb223 hg w21 hbox hb; have n0_ := a0_ (below_step (by repeat (first | (with_reducible first | exact HB.out | apply b1_ | apply b2_ | apply b3_) | exact HB.out)) hb); have n1_ := a0_ (hbox); have n2_ := a0_ ((by rw [hg]; exact (below_size (by repeat (first | (with_reducible first | exact HB.out | apply b1_ | apply b2_ | apply b3_) | exact HB.out))) : w.heap.size ≤ gb223)); have n3_ := a0_ ((by rw [hg]; exact (below_size (by repeat (first | (with_reducible first | exact HB.out | apply b1_ | apply b2_ | apply b3_) | exact HB.out))) : w.heap.size ≤ gb223)); clear HB; have HB := n0_; have BK223 := n1_; have GW223 := n2_; have GE223 := n3_; clear n0_ n1_ n2_ n3_; clear hb hbox hg) | (go_at_call 27; (with_reducible refine (laws_wordsOf.calls k a0 t224 true _ A3.out).mono ?_); rintro e w' ⟨rfl, ⟨nd, rfl⟩⟩; (try first | exact ⟨rfl, _, World.drewN_drewN _ _ _⟩ | exact ⟨rfl, _, Eq.trans (World.drewN_drewN _ _ _) (congrArg (World.drewN _) (Nat.add_assoc _ _ _))⟩); have hcz22_0 : w21.cell? ⟨gb223, 0, none⟩ = some (.bool false) := (blk_cell BK223.out 0).trans rfl; have hcz22_1 : w21.cell? ⟨gb223, 1, none⟩ = some (.slice none 0 0) := (blk_cell BK223.out 1).trans rfl; have hfz22_0 := blk_frozen BK223.out 0; have hfz22_1 := blk_frozen BK223.out 1)))
   refine bodyPost_ret (results_ct rfl _ _ gb223 29 #[.bool false, .slice none 0 0] (0, 0) _ rfl (by (with_reducible repeat (first | refine k1_ ?_ _ | refine k2_ ?_ | refine k3_ ?_ _)); refine blk_put (cs := #[.bool false, .slice none 0 0]) ?_ 1 _ rfl; (with_reducible repeat (first | refine k1_ ?_ _ | refine k2_ ?_ | refine k3_ ?_ _)); refine blk_put (cs := #[.bool false, .slice none 0 0]) ?_ 0 _ rfl; (with_reducible repeat (first | refine k1_ ?_ _ | refine k2_ ?_ | refine k3_ ?_ _)); exact BK223.out) Try.underlying29 rfl (by kernel_rfl)) rfl ?_
   exact ⟨_, by first | rfl | (simp [e1_, e2_] <;> rfl) | (simp [*, e1_, e2_] <;> rfl), Kd.V_nil _ _ _ _ _, by repeat (first | (with_reducible first | exact HB.out | apply b1_ | apply b2_ | apply b3_ | refine b4_ ?_ GE223.out) | exact HB.out)⟩
 ·
  replace c4 := Bool.eq_false_iff.mpr c4
  subst c4
  have H1 : (some (false, ([] : List Int), false)) = some (r1, r2, r3) := by rw [if_neg (show ¬ (false = true) by decide)] at H; exact H
  clear H
  have H := H1
  clear H1
  simp only [Option.some.injEq, Prod.mk.injEq] at H
  obtain ⟨rfl, rfl, rfl⟩ := H
  go_enter Try.func9, Try.ntmps9
  go_wp2_with (first | ((with_reducible refine gate_dst (N := 4) rfl ?_); (try (refine gate_guard (by rfl) ?_; dsimp only)); refine box_event ?hg (N := 4) ?hd (cs := #[.bool false, .slice none 0 0]) (t := 29) ?hr ?_; (case hd => rfl); (case hg => rfl); (case hr => first | (go_simp; done) | (go_simp; rfl)); intro gb223 hg w23 hbox hb; have n0_ := a0_ (below_step (by repeat (first | (with_reducible first | exact HB.out | apply b1_ | apply b2_ | apply b3_) | exact HB.out)) hb); have n1_ := a0_ (hbox); have n2_ := a0_ ((by rw [hg]; exact (below_size (by repeat (first | (with_reducible first | exact HB.out | apply b1_ | apply b2_ | apply b3_) | exact HB.out))) : w.heap.size ≤ gb223)); have n3_ := a0_ ((by rw [hg]; exact (below_size (by repeat (first | (with_reducible first | exact HB.out | apply b1_ | apply b2_ | apply b3_) | exact HB.out))) : w.heap.size ≤ gb223)); clear HB; have HB := n0_; have BK223 := n1_; have GW223 := n2_; have GE223 := n3_; clear n0_ n1_ n2_ n3_; clear hb hbox hg) | (go_at_call 27; (with_reducible refine (laws_wordsOf.calls k a0 t224 false _ A3.out).mono ?_); rintro e w' ⟨rfl, ⟨nd, rfl⟩⟩; (try first | exact ⟨rfl, _, World.drewN_drewN _ _ _⟩ | exact ⟨rfl, _, Eq.trans (World.drewN_drewN _ _ _) (congrArg (World.drewN _) (Nat.add_assoc _ _ _))⟩); have hcz24_0 : w23.cell? ⟨gb223, 0, none⟩ = some (.bool false) := (blk_cell BK223.out 0).trans rfl; have hcz24_1 : w23.cell? ⟨gb223, 1, none⟩ = some (.slice none 0 0) := (blk_cell BK223.out 1).trans rfl; have hfz24_0 := blk_frozen BK223.out 0; have hfz24_1 := blk_frozen BK223.out 1))
  repeat (go_quiet (first | ((with_reducible refine gate_dst (N := 4) rfl ?_); (try (refine gate_guard (by rfl) ?_; dsimp only)); refine box_event ?hg (N := 4) ?hd (cs := #[.bool false, .slice none 0 0]) (t := 29) ?hr ?_; (case hd => rfl); (case hg => rfl); (case hr => first | (go_simp; done) | (go_simp; rfl)); intro gb223 hg w23 hbox hb; have n0_ := a0_ (below_step (by repeat (first | (with_reducible first | exact HB.out | apply b1_ | apply b2_ | apply b3_) | exact HB.out)) hb); have n1_ := a0_ (hbox); have n2_ := a0_ ((by rw [hg]; exact (below_size (by repeat (first | (with_reducible first | exact HB.out | apply b1_ | apply b2_ | apply b3_) | exact HB.out))) : w.heap.size ≤ gb223)); have n3_ := a0_ ((by rw [hg]; exact (below_size (by repeat (first | (with_reducible first | exact HB.out | apply b1_ | apply b2_ | apply b3_) | exact HB.out))) : w.heap.size ≤ gb223)); clear HB; have HB := n0_; have BK223 := n1_; have GW223 := n2_; have GE223 := n3_; clear n0_ n1_ n2_ n3_; clear hb hbox hg) | (go_at_call 27; (with_reducible refine (laws_wordsOf.calls k a0 t224 false _ A3.out).mono ?_); rintro e w' ⟨rfl, ⟨nd, rfl⟩⟩; (try first | exact ⟨rfl, _, World.drewN_drewN _ _ _⟩ | exact ⟨rfl, _, Eq.trans (World.drewN_drewN _ _ _) (congrArg (World.drewN _) (Nat.add_assoc _ _ _))⟩); have hcz24_0 : w23.cell? ⟨gb223, 0, none⟩ = some (.bool false) := (blk_cell BK223.out 0).trans rfl; have hcz24_1 : w23.cell? ⟨gb223, 1, none⟩ = some (.slice none 0 0) := (blk_cell BK223.out 1).trans rfl; have hfz24_0 := blk_frozen BK223.out 0; have hfz24_1 := blk_frozen BK223.out 1)); try go_wp2_with (first | ((with_reducible refine gate_dst (N := 4) rfl ?_); (try (refine gate_guard (by rfl) ?_; dsimp only)); refine box_event ?hg (N := 4) ?hd (cs := #[.bool false, .slice none 0 0]) (t := 29) ?hr ?_; (case hd => rfl); (case hg => rfl); (case hr => first | (go_simp; done) | (go_simp; rfl)); intro gb223 hg w23 hbox hb; have n0_ := a0_ (below_step (by repeat (first | (with_reducible first | exact HB.out | apply b1_ | apply b2_ | apply b3_) | exact HB.out)) hb); have n1_ := a0_ (hbox); have n2_ := a0_ ((by rw [hg]; exact (below_size (by repeat (first | (with_reducible first | exact HB.out | apply b1_ | apply b2_ | apply b3_) | exact HB.out))) : w.heap.size ≤ gb223)); have n3_ := a0_ ((by rw [hg]; exact (below_size (by repeat (first | (with_reducible first | exact HB.out | apply b1_ | apply b2_ | apply b3_) | exact HB.out))) : w.heap.size ≤ gb223)); clear HB; have HB := n0_; have BK223 := n1_; have GW223 := n2_; have GE223 := n3_; clear n0_ n1_ n2_ n3_; clear hb hbox hg) | (go_at_call 27; (with_reducible refine (laws_wordsOf.calls k a0 t224 false _ A3.out).mono ?_); rintro e w' ⟨rfl, ⟨nd, rfl⟩⟩; (try first | exact ⟨rfl, _, World.drewN_drewN _ _ _⟩ | exact ⟨rfl, _, Eq.trans (World.drewN_drewN _ _ _) (congrArg (World.drewN _) (Nat.add_assoc _ _ _))⟩); have hcz24_0 : w23.cell? ⟨gb223, 0, none⟩ = some (.bool false) := (blk_cell BK223.out 0).trans rfl; have hcz24_1 : w23.cell? ⟨gb223, 1, none⟩ = some (.slice none 0 0) := (blk_cell BK223.out 1).trans rfl; have hfz24_0 := blk_frozen BK223.out 0; have hfz24_1 := blk_frozen BK223.out 1)))
  refine bodyPost_ret (results_ct rfl _ _ gb223 29 #[.bool false, .slice none 0 0] (0, 0) _ rfl (by (with_reducible repeat (first | refine k1_ ?_ _ | refine k2_ ?_ | refine k3_ ?_ _)); refine blk_put (cs := #[.bool false, .slice none 0 0]) ?_ 1 _ rfl; (with_reducible repeat (first | refine k1_ ?_ _ | refine k2_ ?_ | refine k3_ ?_ _)); refine blk_put (cs := #[.bool false, .slice none 0 0]) ?_ 0 _ rfl; (with_reducible repeat (first | refine k1_ ?_ _ | refine k2_ ?_ | refine k3_ ?_ _)); exact BK223.out) Try.underlying29 rfl (by kernel_rfl)) rfl ?_
  exact ⟨_, by first | rfl | (simp [e1_, e2_] <;> rfl) | (simp [*, e1_, e2_] <;> rfl), Kd.V_nil _ _ _ _ _, by repeat (first | (with_reducible first | exact HB.out | apply b1_ | apply b2_ | apply b3_ | refine b4_ ?_ GE223.out) | exact HB.out)⟩


end Go.Proofs.Ytiiicmfobljnaaa.V
