/- . -/
import Derived.Test.YteebgnhhjlgnjaaGreatDoorFV1
namespace Go.Proofs.YteebgnhhjlgnjaaGreatDoor.V
open Go.RowKit Go.Proofs.YteebgnhhjlgnjaaGreatDoorW.PrintWords Go.Proofs.YteebgnhhjlgnjaaGreatDoorW.PrintLast Go.Proofs.YteebgnhhjlgnjaaGreatDoorW.PrintMore
attribute [local go_sem] max2_int min2_int max_two min_two max_three min_three max_four min_four
set_option maxHeartbeats 40000000
set_option maxRecDepth 100000
set_option linter.unusedVariables false
set_option linter.unusedSimpArgs false
mutual
def spec_narrowRuns.j0 : Nat → Bool → Int → Int → Bool → Int → Int → Int → ByteArray → Bool → List Int → List (S30) → Option (Bool)
 | 0, _, _, _, _, _, _, _, _, _, _, _ => none
 | k + 1, x16, x111000, x111001, x111002, x111003, x111004, x111005, x111006, x111007, x111008, x111009 => if x16 = true then (some true) else (spec_narrowRuns.l0 k x111009 (x111009.length : Int) 0)
def spec_narrowRuns.l0 : Nat → List (S30) → Int → Int → Option (Bool)
 | 0, _, _, _ => none
 | k + 1, x18, x19, x20 => if x20 < x19 then (if 0 ≤ x20 then (if x20 < (x18.length : Int) then ((spec_narrowRuns.f k ((rd_T30 x18 x20).f2.f0) ((rd_T30 x18 x20).f2.f1) ((rd_T30 x18 x20).f2.f2) ((rd_T30 x18 x20).f2.f3) ((rd_T30 x18 x20).f2.f4) ((rd_T30 x18 x20).f2.f5) ((rd_T30 x18 x20).f2.f6) ((rd_T30 x18 x20).f2.f7) ((rd_T30 x18 x20).f2.f8) ((rd_T30 x18 x20).f2.f9)).bind fun t114 => (if t114 = true then (some true) else (spec_narrowRuns.l0 k x18 x19 (wrap64 (x20 + 1))))) else (none)) else (none)) else (some false)
def spec_narrowRuns.f : Nat → Int → Int → Bool → Int → Int → Int → ByteArray → Bool → List Int → List (S30) → Option (Bool)
 | 0, _, _, _, _, _, _, _, _, _, _ => none
 | k + 1, a0_0, a0_1, a0_2, a0_3, a0_4, a0_5, a0_6, a0_7, l0_8, l0_9 => if a0_0 = 22 then (if 0 < (l0_9.length : Int) then (spec_narrowRuns.j0 k (((rd_T30 l0_9 0).f2.f1) == 16) a0_0 a0_1 a0_2 a0_3 a0_4 a0_5 a0_6 a0_7 l0_8 l0_9) else (none)) else (spec_narrowRuns.j0 k false a0_0 a0_1 a0_2 a0_3 a0_4 a0_5 a0_6 a0_7 l0_8 l0_9)
end
theorem spec_narrowRuns.calls (k : Nat) : ∀ (a0_0 : Int) (a0_1 : Int) (a0_2 : Bool) (a0_3 : Int) (a0_4 : Int) (a0_5 : Int) (a0_6 : ByteArray) (a0_7 : Bool) (A0_8 : Option Addr) (c0_8 : Nat) (l0_8 : List Int) (A0_9 : Option Addr) (c0_9 : Nat) (l0_9 : List (S30)) (r : Bool) (w : World) (hr0_8 : Kd.C (Kd.int .i64) w A0_8 l0_8.length l0_8) (hc0_8 : l0_8.length ≤ c0_8) (hr0_9 : Kd.C k30 w A0_9 l0_9.length l0_9) (hc0_9 : l0_9.length ≤ c0_9) (h : spec_narrowRuns.f k a0_0 a0_1 a0_2 a0_3 a0_4 a0_5 a0_6 a0_7 l0_8 l0_9 = some r),
 Calls Tryz.prog 58 #[.agg #[.int .i64 a0_0, .int .i64 a0_1, .bool a0_2, .int .i64 a0_3, .int .i64 a0_4, .int .i64 a0_5, .string a0_6, .bool a0_7, .slice A0_8 l0_8.length c0_8, .slice A0_9 l0_9.length c0_9]] w fun e w' => e = .returned (.bool r) ∧ Below w.heap.size w w' := by
 induction k using Nat.strongRecOn with
 | _ k ih =>
 intro a0_0 a0_1 a0_2 a0_3 a0_4 a0_5 a0_6 a0_7 A0_8 c0_8 l0_8 A0_9 c0_9 l0_9 r w hr0_8 hc0_8 hr0_9 hc0_9 h
 cases k with
 | zero => exact absurd h (by simp [spec_narrowRuns.f])
 | succ k =>
 simp only [spec_narrowRuns.f] at h
 have hu28 := Tryz.underlying28
 have hu30 := Tryz.underlying30
 have HR0_8 := a0_ hr0_8
 have HC0_8 := a0_ hc0_8
 clear hr0_8 hc0_8
 have HR0_9 := a0_ hr0_9
 have HC0_9 := a0_ hc0_9
 clear hr0_9 hc0_9
 have HB := a0_ (Below.refl w.heap.size w)
 have H : (if a0_0 = 22 then (if 0 < (l0_9.length : Int) then (spec_narrowRuns.j0 k (((rd_T30 l0_9 0).f2.f1) == 16) a0_0 a0_1 a0_2 a0_3 a0_4 a0_5 a0_6 a0_7 l0_8 l0_9) else (none)) else (spec_narrowRuns.j0 k false a0_0 a0_1 a0_2 a0_3 a0_4 a0_5 a0_6 a0_7 l0_8 l0_9)) = some r := h
 clear h
 have HC2 := a0_ H
 clear H
 go_enter Tryz.func58, Tryz.ntmps58
 go_upto_region 1 with (first | ((with_reducible refine gate_dst (N := 1) rfl ?_); refine box_event ?hg (N := 1) ?hd (cs := #[.int .i64 a0_0, .int .i64 a0_1, .bool a0_2, .int .i64 a0_3, .int .i64 a0_4, .int .i64 a0_5, .string a0_6, .bool a0_7, .slice A0_8 l0_8.length c0_8, .slice A0_9 l0_9.length c0_9]) (t := 28) ?hr ?_; (case hd => rfl); (case hg => rfl); (case hr => first | (go_simp; done) | (go_simp; rfl)); intro gb110 hg w3 hbox hb; have n0_ := a0_ (below_step (by repeat (first | (with_reducible first | exact HB.out | apply b1_ | apply b2_ | apply b3_) | exact HB.out)) hb); have n1_ := a0_ (hbox); have n2_ := a0_ ((by rw [hg]; exact (below_size (by repeat (first | (with_reducible first | exact HB.out | apply b1_ | apply b2_ | apply b3_) | exact HB.out))) : w.heap.size ≤ gb110)); have n3_ := a0_ ((by rw [hg]; exact (below_size (by repeat (first | (with_reducible first | exact HB.out | apply b1_ | apply b2_ | apply b3_) | exact HB.out))) : w.heap.size ≤ gb110)); clear HB; have HB := n0_; have BK110 := n1_; have GW110 := n2_; have GE110 := n3_; clear n0_ n1_ n2_ n3_; clear hb hbox hg))
 (try simp only [Act.put, s1_, s2_, s3_])
 go_cut [16] (fun v16 wc => ∃ (kq : Nat) (x16_1 : Bool), v16 = .bool x16_1 ∧ Aside0 (spec_narrowRuns.j0 kq x16_1 a0_0 a0_1 a0_2 a0_3 a0_4 a0_5 a0_6 a0_7 l0_8 l0_9 = some r) ∧ Aside0 (kq ≤ k) ∧ Aside0 (wc.heap[gb110]? = some (.cells #[.int .i64 a0_0, .int .i64 a0_1, .bool a0_2, .int .i64 a0_3, .int .i64 a0_4, .int .i64 a0_5, .string a0_6, .bool a0_7, (.slice A0_8 l0_8.length c0_8), (.slice A0_9 l0_9.length c0_9)] 28 (0, 0))) ∧ Aside0 (Below w.heap.size w wc))
 case first =>
  have H := HC2.out
  clear HC2
  by_cases c4 : a0_0 = 22
  ·
   rw [if_pos c4] at H
   have c4b0 : (a0_0 == 22) = true := beq_iff_eq.mpr c4
   have c4b1 : (a0_0 != 22) = false := bne_eq_false_iff_eq.mpr c4
   clear c4
   (first | rw [c4b0] | (simp only [i64_w, i32_w]; rw [c4b0]) | skip)
   by_cases c5 : 0 < (l0_9.length : Int)
   ·
    rw [if_pos c5] at H
    have c5b0 : decide (0 < (l0_9.length : Int)) = true := d2_ c5
    have c5b1 : decide (0 < l0_9.length) = true := d2_ (by omega)
    clear c5
    have H' := a0_ H
    clear H
    obtain ⟨hcz6_0, hcz6_1, hcz6_2, hcz6_3, hcz6_4, hcz6_5, hcz6_6, hcz6_7, hcz6_8, hcz6_9⟩ := cb10 BK110.out
    obtain ⟨hfz6_0, hfz6_1, hfz6_2, hfz6_3, hfz6_4, hfz6_5, hfz6_6, hfz6_7, hfz6_8, hfz6_9⟩ := fb10 BK110.out
    have p111 : 0 ≤ (0 : Int) := (by omega)
    have q111 : 0 < (l0_9.length : Int) := d1_ (by first | (with_reducible assumption) | assumption)
    obtain ⟨ad111, A111_10, c111_10, A111_11, c111_11, A111_12, c111_12, e111, hx111_0, hx111_1, hx111_2, hx111_3, hx111_4, hx111_5, hx111_6, hx111_7, hx111_8, hx111_9, hx111_10, hx111_11, hx111_12, hl111_10, hi111_10, hl111_11, hi111_11, hl111_12, hi111_12⟩ := at_T30 HR0_9.out 0 p111 q111
    cases e111
    have qi111 : (0 < l0_9.length) = True := eq_true (by omega)
    (try rw [show ((0 : Int)).toNat = 0 from rfl] at hx111_0)
    (try rw [show 0 * 13 = 0 from rfl] at hx111_0)
    (try rw [Addr.add_zero'] at hx111_0)
    (try rw [show ((0 : Int)).toNat = 0 from rfl] at hx111_1)
    (try rw [show 0 * 13 = 0 from rfl] at hx111_1)
    (try rw [Addr.add_zero'] at hx111_1)
    (try rw [show ((0 : Int)).toNat = 0 from rfl] at hx111_2)
    (try rw [show 0 * 13 = 0 from rfl] at hx111_2)
    (try rw [Addr.add_zero'] at hx111_2)
    (try rw [show ((0 : Int)).toNat = 0 from rfl] at hx111_3)
    (try rw [show 0 * 13 = 0 from rfl] at hx111_3)
    (try rw [Addr.add_zero'] at hx111_3)
    (try rw [show ((0 : Int)).toNat = 0 from rfl] at hx111_4)
    (try rw [show 0 * 13 = 0 from rfl] at hx111_4)
    (try rw [Addr.add_zero'] at hx111_4)
    (try rw [show ((0 : Int)).toNat = 0 from rfl] at hx111_5)
    (try rw [show 0 * 13 = 0 from rfl] at hx111_5)
    (try rw [Addr.add_zero'] at hx111_5)
    (try rw [show ((0 : Int)).toNat = 0 from rfl] at hx111_6)
    (try rw [show 0 * 13 = 0 from rfl] at hx111_6)
    (try rw [Addr.add_zero'] at hx111_6)
    (try rw [show ((0 : Int)).toNat = 0 from rfl] at hx111_7)
    (try rw [show 0 * 13 = 0 from rfl] at hx111_7)
    (try rw [Addr.add_zero'] at hx111_7)
    (try rw [show ((0 : Int)).toNat = 0 from rfl] at hx111_8)
    (try rw [show 0 * 13 = 0 from rfl] at hx111_8)
    (try rw [Addr.add_zero'] at hx111_8)
    (try rw [show ((0 : Int)).toNat = 0 from rfl] at hx111_9)
    (try rw [show 0 * 13 = 0 from rfl] at hx111_9)
    (try rw [Addr.add_zero'] at hx111_9)
    (try rw [show ((0 : Int)).toNat = 0 from rfl] at hx111_10)
    (try rw [show 0 * 13 = 0 from rfl] at hx111_10)
    (try rw [Addr.add_zero'] at hx111_10)
    (try rw [show ((0 : Int)).toNat = 0 from rfl] at hx111_11)
    (try rw [show 0 * 13 = 0 from rfl] at hx111_11)
    (try rw [Addr.add_zero'] at hx111_11)
    (try rw [show ((0 : Int)).toNat = 0 from rfl] at hx111_12)
    (try rw [show 0 * 13 = 0 from rfl] at hx111_12)
    (try rw [Addr.add_zero'] at hx111_12)
    replace hx111_0 := (HB.out.cell (World.block_lt_of_cell? w _ hx111_0)).trans hx111_0
    replace hx111_1 := (HB.out.cell (World.block_lt_of_cell? w _ hx111_1)).trans hx111_1
    replace hx111_2 := (HB.out.cell (World.block_lt_of_cell? w _ hx111_2)).trans hx111_2
    replace hx111_3 := (HB.out.cell (World.block_lt_of_cell? w _ hx111_3)).trans hx111_3
    replace hx111_4 := (HB.out.cell (World.block_lt_of_cell? w _ hx111_4)).trans hx111_4
    replace hx111_5 := (HB.out.cell (World.block_lt_of_cell? w _ hx111_5)).trans hx111_5
    replace hx111_6 := (HB.out.cell (World.block_lt_of_cell? w _ hx111_6)).trans hx111_6
    replace hx111_7 := (HB.out.cell (World.block_lt_of_cell? w _ hx111_7)).trans hx111_7
    replace hx111_8 := (HB.out.cell (World.block_lt_of_cell? w _ hx111_8)).trans hx111_8
    replace hx111_9 := (HB.out.cell (World.block_lt_of_cell? w _ hx111_9)).trans hx111_9
    replace hx111_10 := (HB.out.cell (World.block_lt_of_cell? w _ hx111_10)).trans hx111_10
    replace hx111_11 := (HB.out.cell (World.block_lt_of_cell? w _ hx111_11)).trans hx111_11
    replace hx111_12 := (HB.out.cell (World.block_lt_of_cell? w _ hx111_12)).trans hx111_12
    have HR111_10 := a0_ hi111_10
    have HC111_10 := a0_ hl111_10
    clear hi111_10 hl111_10
    have HR111_11 := a0_ hi111_11
    have HC111_11 := a0_ hl111_11
    clear hi111_11 hl111_11
    have HR111_12 := a0_ hi111_12
    have HC111_12 := a0_ hl111_12
    clear hi111_12 hl111_12
    replace p111 := eq_true p111
    replace q111 := eq_true q111
    go_wp2
    go_meet
    case rel => exact ⟨_, ((((rd_T30 l0_9 0).f2.f1) == 16)), (by first | rfl | (simp; done) | (simp [*]; done)), H', ⟨by first | omega | exact Nat.le_refl _⟩, ⟨by (with_reducible repeat (first | refine k1_ ?_ _ | refine k2_ ?_ | refine k3_ ?_ _)); exact BK110.out⟩, ⟨by repeat (first | (with_reducible first | exact HB.out | apply b1_ | apply b2_ | apply b3_ | refine b4_ ?_ GE110.out) | exact HB.out)⟩⟩
   ·
    rw [if_neg c5] at H
    exact absurd H (by simp)
  ·
   rw [if_neg c4] at H
   have c4b0 : (a0_0 == 22) = false := beq_eq_false_iff_ne.mpr c4
   have c4b1 : (a0_0 != 22) = true := bne_iff_ne.mpr c4
   (first | rw [c4b0] | (simp only [i64_w, i32_w]; rw [c4b0]) | skip)
   have H' := a0_ H
   clear H
   obtain ⟨hcz7_0, hcz7_1, hcz7_2, hcz7_3, hcz7_4, hcz7_5, hcz7_6, hcz7_7, hcz7_8, hcz7_9⟩ := cb10 BK110.out
   obtain ⟨hfz7_0, hfz7_1, hfz7_2, hfz7_3, hfz7_4, hfz7_5, hfz7_6, hfz7_7, hfz7_8, hfz7_9⟩ := fb10 BK110.out
   go_wp2
   go_meet
   case rel => exact ⟨_, (false), (by first | rfl | (simp; done) | (simp [*]; done)), H', ⟨by first | omega | exact Nat.le_refl _⟩, ⟨by (with_reducible repeat (first | refine k1_ ?_ _ | refine k2_ ?_ | refine k3_ ?_ _)); exact BK110.out⟩, ⟨by repeat (first | (with_reducible first | exact HB.out | apply b1_ | apply b2_ | apply b3_ | refine b4_ ?_ GE110.out) | exact HB.out)⟩⟩
 case rest =>
  clear HC2
  try clear c1
  try clear p1
  try clear q1
  try clear hx1
  try clear qi1
  try clear p2
  try clear c4
  try clear c4b0
  try clear c4b1
  try clear c5
  try clear c5b0
  try clear c5b1
  try clear hcz6_0
  try clear hcz6_1
  try clear hcz6_2
  try clear hcz6_3
  try clear hcz6_4
  try clear hcz6_5
  try clear hcz6_6
  try clear hcz6_7
  try clear hcz6_8
  try clear hcz6_9
  try clear hcz7_0
  try clear hcz7_1
  try clear hcz7_2
  try clear hcz7_3
  try clear hcz7_4
  try clear hcz7_5
  try clear hcz7_6
  try clear hcz7_7
  try clear hcz7_8
  try clear hcz7_9
  try clear hfz6_0
  try clear hfz6_1
  try clear hfz6_2
  try clear hfz6_3
  try clear hfz6_4
  try clear hfz6_5
  try clear hfz6_6
  try clear hfz6_7
  try clear hfz6_8
  try clear hfz6_9
  try clear hfz7_0
  try clear hfz7_1
  try clear hfz7_2
  try clear hfz7_3
  try clear hfz7_4
  try clear hfz7_5
  try clear hfz7_6
  try clear hfz7_7
  try clear hfz7_8
  try clear hfz7_9
  try clear hx111_0
  try clear hx111_1
  try clear hx111_10
  try clear hx111_11
  try clear hx111_12
  try clear hx111_2
  try clear hx111_3
  try clear hx111_4
  try clear hx111_5
  try clear hx111_6
  try clear hx111_7
  try clear hx111_8
  try clear hx111_9
  try clear p111
  try clear q111
  obtain ⟨kq, x16_1, rfl, HA, HJ1, BK110, HB⟩ := hcut
  cases kq with
  | zero => exact absurd HA.out (by simp [spec_narrowRuns.j0])
  | succ kj1 =>
   have H := HA.out
   clear HA
   simp only [spec_narrowRuns.j0] at H
   by_cases c8 : x16_1 = true
   ·
    subst c8
    have H1 : (some true) = some r := by rw [if_pos rfl] at H; exact H
    clear H
    have H := H1
    clear H1
    obtain rfl := o1_ H
    go_wp2
    go_ret
    exact ⟨by first | rfl | (simp [e1_, e2_] <;> rfl) | (simp [*, e1_, e2_] <;> rfl), by repeat (first | (with_reducible first | exact HB.out | apply b1_ | apply b2_ | apply b3_ | refine b4_ ?_ GE110.out) | exact HB.out)⟩
   ·
    replace c8 := Bool.eq_false_iff.mpr c8
    subst c8
    have H1 : (spec_narrowRuns.l0 kj1 l0_9 (l0_9.length : Int) 0) = some r := by rw [if_neg (show ¬ (false = true) by decide)] at H; exact H
    clear H
    have H := H1
    clear H1
    have H' := a0_ H
    clear H
    obtain ⟨hcz9_0, hcz9_1, hcz9_2, hcz9_3, hcz9_4, hcz9_5, hcz9_6, hcz9_7, hcz9_8, hcz9_9⟩ := cb10 BK110.out
    obtain ⟨hfz9_0, hfz9_1, hfz9_2, hfz9_3, hfz9_4, hfz9_5, hfz9_6, hfz9_7, hfz9_8, hfz9_9⟩ := fb10 BK110.out
    go_wp2
    go_loopg [20] kj1 (fun kq v20 w' => ∃ (x20_2 : Int), v20 = .int .i64 x20_2 ∧ Aside0 (spec_narrowRuns.l0 kq l0_9 (l0_9.length : Int) x20_2 = some r) ∧ Aside0 (kq ≤ kj1) ∧ Aside0 (w'.heap[gb110]? = some (.cells #[.int .i64 a0_0, .int .i64 a0_1, .bool a0_2, .int .i64 a0_3, .int .i64 a0_4, .int .i64 a0_5, .string a0_6, .bool a0_7, (.slice A0_8 l0_8.length c0_8), (.slice A0_9 l0_9.length c0_9)] 28 (0, 0))) ∧ Aside0 (Below w.heap.size w w'))
    case atStart => exact ⟨(0), (by first | rfl | (simp; done) | (simp [*]; done)), H', ⟨Nat.le_refl _⟩, ⟨by (with_reducible repeat (first | refine k1_ ?_ _ | refine k2_ ?_ | refine k3_ ?_ _)); exact BK110.out⟩, ⟨by repeat (first | (with_reducible first | exact HB.out | apply b1_ | apply b2_ | apply b3_ | refine b4_ ?_ GE110.out) | exact HB.out)⟩⟩
    case round =>
     clear H'
     try clear c1
     try clear p1
     try clear q1
     try clear hx1
     try clear qi1
     try clear p2
     try clear c4
     try clear c4b0
     try clear c4b1
     try clear c5
     try clear c5b0
     try clear c5b1
     try clear c8
     try clear hcz6_0
     try clear hcz6_1
     try clear hcz6_2
     try clear hcz6_3
     try clear hcz6_4
     try clear hcz6_5
     try clear hcz6_6
     try clear hcz6_7
     try clear hcz6_8
     try clear hcz6_9
     try clear hcz7_0
     try clear hcz7_1
     try clear hcz7_2
     try clear hcz7_3
     try clear hcz7_4
     try clear hcz7_5
     try clear hcz7_6
     try clear hcz7_7
     try clear hcz7_8
     try clear hcz7_9
     try clear hcz9_0
     try clear hcz9_1
     try clear hcz9_2
     try clear hcz9_3
     try clear hcz9_4
     try clear hcz9_5
     try clear hcz9_6
     try clear hcz9_7
     try clear hcz9_8
     try clear hcz9_9
     try clear hfz6_0
     try clear hfz6_1
     try clear hfz6_2
     try clear hfz6_3
     try clear hfz6_4
     try clear hfz6_5
     try clear hfz6_6
     try clear hfz6_7
     try clear hfz6_8
     try clear hfz6_9
     try clear hfz7_0
     try clear hfz7_1
     try clear hfz7_2
     try clear hfz7_3
     try clear hfz7_4
     try clear hfz7_5
     try clear hfz7_6
     try clear hfz7_7
     try clear hfz7_8
     try clear hfz7_9
     try clear hfz9_0
     try clear hfz9_1
     try clear hfz9_2
     try clear hfz9_3
     try clear hfz9_4
     try clear hfz9_5
     try clear hfz9_6
     try clear hfz9_7
     try clear hfz9_8
     try clear hfz9_9
     try clear hx111_0
     try clear hx111_1
     try clear hx111_10
     try clear hx111_11
     try clear hx111_12
     try clear hx111_2
     try clear hx111_3
     try clear hx111_4
     try clear hx111_5
     try clear hx111_6
     try clear hx111_7
     try clear hx111_8
     try clear hx111_9
     try clear p1
     try clear p111
     try clear p2
     try clear q1
     try clear q111
     obtain ⟨x20_2, rfl, HA, HK2, BK110, HB⟩ := hrel
     cases gk with
     | zero => exact absurd HA.out (by simp [spec_narrowRuns.l0])
     | succ k2 =>
      have H := HA.out
      clear HA
      simp only [spec_narrowRuns.l0] at H
      by_cases c10 : x20_2 < (l0_9.length : Int)
      ·
       rw [if_pos c10] at H
       have c10b0 : decide (x20_2 < (l0_9.length : Int)) = true := d2_ c10
       clear c10
       by_cases c11 : 0 ≤ x20_2
       ·
        rw [if_pos c11] at H
        have c11b0 : decide (0 ≤ x20_2) = true := d2_ c11
        clear c11
        by_cases c12 : x20_2 < (l0_9.length : Int)
        ·
         rw [if_pos c12] at H
         have c12b0 : decide (x20_2 < (l0_9.length : Int)) = true := d2_ c12
         clear c12
         replace H := Option.bind_eq_some_iff.mp H
         obtain ⟨t114, A130, H⟩ := H
         replace H : (if t114 = true then (some true) else (spec_narrowRuns.l0 k2 l0_9 (l0_9.length : Int) (wrap64 (x20_2 + 1)))) = some r := H
         have A13 := a0_ A130
         clear A130
         by_cases c14 : t114 = true
         ·
          subst c14
          have H1 : (some true) = some r := by rw [if_pos rfl] at H; exact H
          clear H
          have H := H1
          clear H1
          obtain rfl := o1_ H
          have p112 : 0 ≤ (x20_2 : Int) := d1_ (by first | (with_reducible assumption) | assumption)
          have q112 : x20_2 < (l0_9.length : Int) := d1_ (by first | (with_reducible assumption) | assumption)
          obtain ⟨ad112, A112_10, c112_10, A112_11, c112_11, A112_12, c112_12, e112, hx112_0, hx112_1, hx112_2, hx112_3, hx112_4, hx112_5, hx112_6, hx112_7, hx112_8, hx112_9, hx112_10, hx112_11, hx112_12, hl112_10, hi112_10, hl112_11, hi112_11, hl112_12, hi112_12⟩ := at_T30 HR0_9.out x20_2 p112 q112
          cases e112
          replace hx112_0 := (HB.out.cell (World.block_lt_of_cell? w _ hx112_0)).trans hx112_0
          replace hx112_1 := (HB.out.cell (World.block_lt_of_cell? w _ hx112_1)).trans hx112_1
          replace hx112_2 := (HB.out.cell (World.block_lt_of_cell? w _ hx112_2)).trans hx112_2
          replace hx112_3 := (HB.out.cell (World.block_lt_of_cell? w _ hx112_3)).trans hx112_3
          replace hx112_4 := (HB.out.cell (World.block_lt_of_cell? w _ hx112_4)).trans hx112_4
          replace hx112_5 := (HB.out.cell (World.block_lt_of_cell? w _ hx112_5)).trans hx112_5
          replace hx112_6 := (HB.out.cell (World.block_lt_of_cell? w _ hx112_6)).trans hx112_6
          replace hx112_7 := (HB.out.cell (World.block_lt_of_cell? w _ hx112_7)).trans hx112_7
          replace hx112_8 := (HB.out.cell (World.block_lt_of_cell? w _ hx112_8)).trans hx112_8
          replace hx112_9 := (HB.out.cell (World.block_lt_of_cell? w _ hx112_9)).trans hx112_9
          replace hx112_10 := (HB.out.cell (World.block_lt_of_cell? w _ hx112_10)).trans hx112_10
          replace hx112_11 := (HB.out.cell (World.block_lt_of_cell? w _ hx112_11)).trans hx112_11
          replace hx112_12 := (HB.out.cell (World.block_lt_of_cell? w _ hx112_12)).trans hx112_12
          have HR112_10 := a0_ hi112_10
          have HC112_10 := a0_ hl112_10
          clear hi112_10 hl112_10
          have HR112_11 := a0_ hi112_11
          have HC112_11 := a0_ hl112_11
          clear hi112_11 hl112_11
          have HR112_12 := a0_ hi112_12
          have HC112_12 := a0_ hl112_12
          clear hi112_12 hl112_12
          replace p112 := eq_true p112
          replace q112 := eq_true q112
          go_wp2_with (first | ((with_reducible refine gate_dst (N := 4) rfl ?_); refine box_event ?hg (N := 4) ?hd (cs := #[.string (⟨#[]⟩ : ByteArray), .bool false, .int .i64 0, .int .i64 0, .bool false, .int .i64 0, .int .i64 0, .int .i64 0, .string (⟨#[]⟩ : ByteArray), .bool false, .slice none 0 0, .slice none 0 0, .slice none 0 0]) (t := 30) ?hr ?_; (case hd => rfl); (case hg => rfl); (case hr => first | (go_simp; done) | (go_simp; rfl)); intro gb113 hg w15 hbox hb; have n0_ := a0_ (blk_below (g := gb110) (o := .cells #[.int .i64 a0_0, .int .i64 a0_1, .bool a0_2, .int .i64 a0_3, .int .i64 a0_4, .int .i64 a0_5, .string a0_6, .bool a0_7, .slice A0_8 l0_8.length c0_8, .slice (some ad112) l0_9.length c0_9] 28 (0, 0)) (by (with_reducible repeat (first | refine k1_ ?_ _ | refine k2_ ?_ | refine k3_ ?_ _)); exact BK110.out) hb); have n1_ := a0_ (below_step (by repeat (first | (with_reducible first | exact HB.out | apply b1_ | apply b2_ | apply b3_ | refine b4_ ?_ GE110.out) | exact HB.out)) hb); have n2_ := a0_ (hbox); have n3_ := a0_ ((by rw [hg]; exact (below_size (by repeat (first | (with_reducible first | exact HB.out | apply b1_ | apply b2_ | apply b3_ | refine b4_ ?_ GE110.out) | exact HB.out))) : w.heap.size ≤ gb113)); have n4_ := a0_ ((by rw [hg]; exact (below_size (by repeat (first | (with_reducible first | exact HB.out | apply b1_ | apply b2_ | apply b3_ | refine b4_ ?_ GE110.out) | exact HB.out))) : w.heap.size ≤ gb113)); have n5_ := a0_ ((by rw [hg]; exact Nat.ne_of_lt (blk_lt (g := gb110) (o := .cells #[.int .i64 a0_0, .int .i64 a0_1, .bool a0_2, .int .i64 a0_3, .int .i64 a0_4, .int .i64 a0_5, .string a0_6, .bool a0_7, .slice A0_8 l0_8.length c0_8, .slice (some ad112) l0_9.length c0_9] 28 (0, 0)) (by (with_reducible repeat (first | refine k1_ ?_ _ | refine k2_ ?_ | refine k3_ ?_ _)); exact BK110.out)) : gb110 ≠ gb113)); have n6_ := a0_ ((by rw [hg]; exact Nat.ne_of_gt (blk_lt (g := gb110) (o := .cells #[.int .i64 a0_0, .int .i64 a0_1, .bool a0_2, .int .i64 a0_3, .int .i64 a0_4, .int .i64 a0_5, .string a0_6, .bool a0_7, .slice A0_8 l0_8.length c0_8, .slice (some ad112) l0_9.length c0_9] 28 (0, 0)) (by (with_reducible repeat (first | refine k1_ ?_ _ | refine k2_ ?_ | refine k3_ ?_ _)); exact BK110.out)) : gb113 ≠ gb110)); clear BK110; clear HB; have BK110 := n0_; have HB := n1_; have BK113 := n2_; have GW113 := n3_; have GE113 := n4_; have NB110_113 := n5_; have NB113_110 := n6_; clear n0_ n1_ n2_ n3_ n4_ n5_ n6_; clear hb hbox hg; have hnb16 := NB113_110.out; have hnc16 := NB110_113.out; have hcz17_0 : w15.cell? ⟨gb113, 0, none⟩ = some (.string (⟨#[]⟩ : ByteArray)) := (blk_cell BK113.out 0).trans rfl; have hcz17_1 : w15.cell? ⟨gb113, 1, none⟩ = some (.bool false) := (blk_cell BK113.out 1).trans rfl; have hcz17_2 : w15.cell? ⟨gb113, 2, none⟩ = some (.int .i64 0) := (blk_cell BK113.out 2).trans rfl; have hcz17_3 : w15.cell? ⟨gb113, 3, none⟩ = some (.int .i64 0) := (blk_cell BK113.out 3).trans rfl; have hcz17_4 : w15.cell? ⟨gb113, 4, none⟩ = some (.bool false) := (blk_cell BK113.out 4).trans rfl; have hcz17_5 : w15.cell? ⟨gb113, 5, none⟩ = some (.int .i64 0) := (blk_cell BK113.out 5).trans rfl; have hcz17_6 : w15.cell? ⟨gb113, 6, none⟩ = some (.int .i64 0) := (blk_cell BK113.out 6).trans rfl; have hcz17_7 : w15.cell? ⟨gb113, 7, none⟩ = some (.int .i64 0) := (blk_cell BK113.out 7).trans rfl; have hcz17_8 : w15.cell? ⟨gb113, 8, none⟩ = some (.string (⟨#[]⟩ : ByteArray)) := (blk_cell BK113.out 8).trans rfl; have hcz17_9 : w15.cell? ⟨gb113, 9, none⟩ = some (.bool false) := (blk_cell BK113.out 9).trans rfl; have hcz17_10 : w15.cell? ⟨gb113, 10, none⟩ = some (.slice none 0 0) := (blk_cell BK113.out 10).trans rfl; have hcz17_11 : w15.cell? ⟨gb113, 11, none⟩ = some (.slice none 0 0) := (blk_cell BK113.out 11).trans rfl; have hcz17_12 : w15.cell? ⟨gb113, 12, none⟩ = some (.slice none 0 0) := (blk_cell BK113.out 12).trans rfl; have hfz17_0 := blk_frozen BK113.out 0; have hfz17_1 := blk_frozen BK113.out 1; have hfz17_2 := blk_frozen BK113.out 2; have hfz17_3 := blk_frozen BK113.out 3; have hfz17_4 := blk_frozen BK113.out 4; have hfz17_5 := blk_frozen BK113.out 5; have hfz17_6 := blk_frozen BK113.out 6; have hfz17_7 := blk_frozen BK113.out 7; have hfz17_8 := blk_frozen BK113.out 8; have hfz17_9 := blk_frozen BK113.out 9; have hfz17_10 := blk_frozen BK113.out 10; have hfz17_11 := blk_frozen BK113.out 11; have hfz17_12 := blk_frozen BK113.out 12) | ((with_reducible refine gate_callee (f := 58) rfl ?_); refine goesL_ (some 26) rfl rfl Tryz.func58 (by kernel_rfl) rfl #[.agg #[.int .i64 ((rd_T30 l0_9 x20_2).f2.f0), .int .i64 ((rd_T30 l0_9 x20_2).f2.f1), .bool ((rd_T30 l0_9 x20_2).f2.f2), .int .i64 ((rd_T30 l0_9 x20_2).f2.f3), .int .i64 ((rd_T30 l0_9 x20_2).f2.f4), .int .i64 ((rd_T30 l0_9 x20_2).f2.f5), .string ((rd_T30 l0_9 x20_2).f2.f6), .bool ((rd_T30 l0_9 x20_2).f2.f7), .slice A112_10 ((rd_T30 l0_9 x20_2).f2.f8).length c112_10, .slice A112_11 ((rd_T30 l0_9 x20_2).f2.f9).length c112_11]] rfl (by (try simp only [List.map_toArray, List.map_cons, List.map_nil]); first | done | rfl | (simp only [List.length_drop, List.length_take]; rfl)) ?_; (with_reducible refine (ih k2 (by have := HJ1.out; have := HK2.out; omega) ((rd_T30 l0_9 x20_2).f2.f0) ((rd_T30 l0_9 x20_2).f2.f1) ((rd_T30 l0_9 x20_2).f2.f2) ((rd_T30 l0_9 x20_2).f2.f3) ((rd_T30 l0_9 x20_2).f2.f4) ((rd_T30 l0_9 x20_2).f2.f5) ((rd_T30 l0_9 x20_2).f2.f6) ((rd_T30 l0_9 x20_2).f2.f7) _ _ ((rd_T30 l0_9 x20_2).f2.f8) _ _ ((rd_T30 l0_9 x20_2).f2.f9) true _ ?side1 ?side2 ?side3 ?side4 A13.out).mono ?_); (case side1 => exact Kd.C_below HR112_10.out (by repeat (first | (with_reducible first | exact HB.out | apply b1_ | apply b2_ | apply b3_ | refine b4_ ?_ GE110.out | refine b4_ ?_ GE113.out) | exact HB.out))); (case side2 => exact HC112_10.out); (case side3 => exact Kd.C_below HR112_11.out (by repeat (first | (with_reducible first | exact HB.out | apply b1_ | apply b2_ | apply b3_ | refine b4_ ?_ GE110.out | refine b4_ ?_ GE113.out) | exact HB.out))); (case side4 => exact HC112_11.out); rintro e w18 ⟨rfl, hb⟩; refine ⟨_, rfl, ?_⟩; have n0_ := a0_ (blk_below (g := gb110) (o := .cells #[.int .i64 a0_0, .int .i64 a0_1, .bool a0_2, .int .i64 a0_3, .int .i64 a0_4, .int .i64 a0_5, .string a0_6, .bool a0_7, .slice A0_8 l0_8.length c0_8, .slice (some ad112) l0_9.length c0_9] 28 (0, 0)) (by (with_reducible repeat (first | refine k1_ ?_ _ | refine k2_ ?_ | refine k3_ ?_ _)); refine blk_far ?_ NB110_113.out _; (with_reducible repeat (first | refine k1_ ?_ _ | refine k2_ ?_ | refine k3_ ?_ _)); refine blk_far ?_ NB110_113.out _; (with_reducible repeat (first | refine k1_ ?_ _ | refine k2_ ?_ | refine k3_ ?_ _)); refine blk_far ?_ NB110_113.out _; (with_reducible repeat (first | refine k1_ ?_ _ | refine k2_ ?_ | refine k3_ ?_ _)); refine blk_far ?_ NB110_113.out _; (with_reducible repeat (first | refine k1_ ?_ _ | refine k2_ ?_ | refine k3_ ?_ _)); refine blk_far ?_ NB110_113.out _; (with_reducible repeat (first | refine k1_ ?_ _ | refine k2_ ?_ | refine k3_ ?_ _)); refine blk_far ?_ NB110_113.out _; (with_reducible repeat (first | refine k1_ ?_ _ | refine k2_ ?_ | refine k3_ ?_ _)); refine blk_far ?_ NB110_113.out _; (with_reducible repeat (first | refine k1_ ?_ _ | refine k2_ ?_ | refine k3_ ?_ _)); refine blk_far ?_ NB110_113.out _; (with_reducible repeat (first | refine k1_ ?_ _ | refine k2_ ?_ | refine k3_ ?_ _)); refine blk_far ?_ NB110_113.out _; (with_reducible repeat (first | refine k1_ ?_ _ | refine k2_ ?_ | refine k3_ ?_ _)); refine blk_far ?_ NB110_113.out _; (with_reducible repeat (first | refine k1_ ?_ _ | refine k2_ ?_ | refine k3_ ?_ _)); refine blk_far ?_ NB110_113.out _; (with_reducible repeat (first | refine k1_ ?_ _ | refine k2_ ?_ | refine k3_ ?_ _)); refine blk_far ?_ NB110_113.out _; (with_reducible repeat (first | refine k1_ ?_ _ | refine k2_ ?_ | refine k3_ ?_ _)); refine blk_far ?_ NB110_113.out _; (with_reducible repeat (first | refine k1_ ?_ _ | refine k2_ ?_ | refine k3_ ?_ _)); exact BK110.out) hb); have n1_ := a0_ (blk_below (g := gb113) (o := .cells #[.string ((rd_T30 l0_9 x20_2).f0), .bool ((rd_T30 l0_9 x20_2).f1), .int .i64 ((rd_T30 l0_9 x20_2).f2.f0), .int .i64 ((rd_T30 l0_9 x20_2).f2.f1), .bool ((rd_T30 l0_9 x20_2).f2.f2), .int .i64 ((rd_T30 l0_9 x20_2).f2.f3), .int .i64 ((rd_T30 l0_9 x20_2).f2.f4), .int .i64 ((rd_T30 l0_9 x20_2).f2.f5), .string ((rd_T30 l0_9 x20_2).f2.f6), .bool ((rd_T30 l0_9 x20_2).f2.f7), .slice A112_10 ((rd_T30 l0_9 x20_2).f2.f8).length c112_10, .slice A112_11 ((rd_T30 l0_9 x20_2).f2.f9).length c112_11, .slice A112_12 ((rd_T30 l0_9 x20_2).f3).length c112_12] 30 (0, 0)) (by (with_reducible repeat (first | refine k1_ ?_ _ | refine k2_ ?_ | refine k3_ ?_ _)); refine blk_put (cs := #[.string ((rd_T30 l0_9 x20_2).f0), .bool ((rd_T30 l0_9 x20_2).f1), .int .i64 ((rd_T30 l0_9 x20_2).f2.f0), .int .i64 ((rd_T30 l0_9 x20_2).f2.f1), .bool ((rd_T30 l0_9 x20_2).f2.f2), .int .i64 ((rd_T30 l0_9 x20_2).f2.f3), .int .i64 ((rd_T30 l0_9 x20_2).f2.f4), .int .i64 ((rd_T30 l0_9 x20_2).f2.f5), .string ((rd_T30 l0_9 x20_2).f2.f6), .bool ((rd_T30 l0_9 x20_2).f2.f7), .slice A112_10 ((rd_T30 l0_9 x20_2).f2.f8).length c112_10, .slice A112_11 ((rd_T30 l0_9 x20_2).f2.f9).length c112_11, .slice none 0 0]) ?_ 12 _ rfl; (with_reducible repeat (first | refine k1_ ?_ _ | refine k2_ ?_ | refine k3_ ?_ _)); refine blk_put (cs := #[.string ((rd_T30 l0_9 x20_2).f0), .bool ((rd_T30 l0_9 x20_2).f1), .int .i64 ((rd_T30 l0_9 x20_2).f2.f0), .int .i64 ((rd_T30 l0_9 x20_2).f2.f1), .bool ((rd_T30 l0_9 x20_2).f2.f2), .int .i64 ((rd_T30 l0_9 x20_2).f2.f3), .int .i64 ((rd_T30 l0_9 x20_2).f2.f4), .int .i64 ((rd_T30 l0_9 x20_2).f2.f5), .string ((rd_T30 l0_9 x20_2).f2.f6), .bool ((rd_T30 l0_9 x20_2).f2.f7), .slice A112_10 ((rd_T30 l0_9 x20_2).f2.f8).length c112_10, .slice none 0 0, .slice none 0 0]) ?_ 11 _ rfl; (with_reducible repeat (first | refine k1_ ?_ _ | refine k2_ ?_ | refine k3_ ?_ _)); refine blk_put (cs := #[.string ((rd_T30 l0_9 x20_2).f0), .bool ((rd_T30 l0_9 x20_2).f1), .int .i64 ((rd_T30 l0_9 x20_2).f2.f0), .int .i64 ((rd_T30 l0_9 x20_2).f2.f1), .bool ((rd_T30 l0_9 x20_2).f2.f2), .int .i64 ((rd_T30 l0_9 x20_2).f2.f3), .int .i64 ((rd_T30 l0_9 x20_2).f2.f4), .int .i64 ((rd_T30 l0_9 x20_2).f2.f5), .string ((rd_T30 l0_9 x20_2).f2.f6), .bool ((rd_T30 l0_9 x20_2).f2.f7), .slice none 0 0, .slice none 0 0, .slice none 0 0]) ?_ 10 _ rfl; (with_reducible repeat (first | refine k1_ ?_ _ | refine k2_ ?_ | refine k3_ ?_ _)); refine blk_put (cs := #[.string ((rd_T30 l0_9 x20_2).f0), .bool ((rd_T30 l0_9 x20_2).f1), .int .i64 ((rd_T30 l0_9 x20_2).f2.f0), .int .i64 ((rd_T30 l0_9 x20_2).f2.f1), .bool ((rd_T30 l0_9 x20_2).f2.f2), .int .i64 ((rd_T30 l0_9 x20_2).f2.f3), .int .i64 ((rd_T30 l0_9 x20_2).f2.f4), .int .i64 ((rd_T30 l0_9 x20_2).f2.f5), .string ((rd_T30 l0_9 x20_2).f2.f6), .bool false, .slice none 0 0, .slice none 0 0, .slice none 0 0]) ?_ 9 _ rfl; (with_reducible repeat (first | refine k1_ ?_ _ | refine k2_ ?_ | refine k3_ ?_ _)); refine blk_put (cs := #[.string ((rd_T30 l0_9 x20_2).f0), .bool ((rd_T30 l0_9 x20_2).f1), .int .i64 ((rd_T30 l0_9 x20_2).f2.f0), .int .i64 ((rd_T30 l0_9 x20_2).f2.f1), .bool ((rd_T30 l0_9 x20_2).f2.f2), .int .i64 ((rd_T30 l0_9 x20_2).f2.f3), .int .i64 ((rd_T30 l0_9 x20_2).f2.f4), .int .i64 ((rd_T30 l0_9 x20_2).f2.f5), .string (⟨#[]⟩ : ByteArray), .bool false, .slice none 0 0, .slice none 0 0, .slice none 0 0]) ?_ 8 _ rfl; (with_reducible repeat (first | refine k1_ ?_ _ | refine k2_ ?_ | refine k3_ ?_ _)); refine blk_put (cs := #[.string ((rd_T30 l0_9 x20_2).f0), .bool ((rd_T30 l0_9 x20_2).f1), .int .i64 ((rd_T30 l0_9 x20_2).f2.f0), .int .i64 ((rd_T30 l0_9 x20_2).f2.f1), .bool ((rd_T30 l0_9 x20_2).f2.f2), .int .i64 ((rd_T30 l0_9 x20_2).f2.f3), .int .i64 ((rd_T30 l0_9 x20_2).f2.f4), .int .i64 0, .string (⟨#[]⟩ : ByteArray), .bool false, .slice none 0 0, .slice none 0 0, .slice none 0 0]) ?_ 7 _ rfl; (with_reducible repeat (first | refine k1_ ?_ _ | refine k2_ ?_ | refine k3_ ?_ _)); refine blk_put (cs := #[.string ((rd_T30 l0_9 x20_2).f0), .bool ((rd_T30 l0_9 x20_2).f1), .int .i64 ((rd_T30 l0_9 x20_2).f2.f0), .int .i64 ((rd_T30 l0_9 x20_2).f2.f1), .bool ((rd_T30 l0_9 x20_2).f2.f2), .int .i64 ((rd_T30 l0_9 x20_2).f2.f3), .int .i64 0, .int .i64 0, .string (⟨#[]⟩ : ByteArray), .bool false, .slice none 0 0, .slice none 0 0, .slice none 0 0]) ?_ 6 _ rfl; (with_reducible repeat (first | refine k1_ ?_ _ | refine k2_ ?_ | refine k3_ ?_ _)); refine blk_put (cs := #[.string ((rd_T30 l0_9 x20_2).f0), .bool ((rd_T30 l0_9 x20_2).f1), .int .i64 ((rd_T30 l0_9 x20_2).f2.f0), .int .i64 ((rd_T30 l0_9 x20_2).f2.f1), .bool ((rd_T30 l0_9 x20_2).f2.f2), .int .i64 0, .int .i64 0, .int .i64 0, .string (⟨#[]⟩ : ByteArray), .bool false, .slice none 0 0, .slice none 0 0, .slice none 0 0]) ?_ 5 _ rfl; (with_reducible repeat (first | refine k1_ ?_ _ | refine k2_ ?_ | refine k3_ ?_ _)); refine blk_put (cs := #[.string ((rd_T30 l0_9 x20_2).f0), .bool ((rd_T30 l0_9 x20_2).f1), .int .i64 ((rd_T30 l0_9 x20_2).f2.f0), .int .i64 ((rd_T30 l0_9 x20_2).f2.f1), .bool false, .int .i64 0, .int .i64 0, .int .i64 0, .string (⟨#[]⟩ : ByteArray), .bool false, .slice none 0 0, .slice none 0 0, .slice none 0 0]) ?_ 4 _ rfl; (with_reducible repeat (first | refine k1_ ?_ _ | refine k2_ ?_ | refine k3_ ?_ _)); refine blk_put (cs := #[.string ((rd_T30 l0_9 x20_2).f0), .bool ((rd_T30 l0_9 x20_2).f1), .int .i64 ((rd_T30 l0_9 x20_2).f2.f0), .int .i64 0, .bool false, .int .i64 0, .int .i64 0, .int .i64 0, .string (⟨#[]⟩ : ByteArray), .bool false, .slice none 0 0, .slice none 0 0, .slice none 0 0]) ?_ 3 _ rfl; (with_reducible repeat (first | refine k1_ ?_ _ | refine k2_ ?_ | refine k3_ ?_ _)); refine blk_put (cs := #[.string ((rd_T30 l0_9 x20_2).f0), .bool ((rd_T30 l0_9 x20_2).f1), .int .i64 0, .int .i64 0, .bool false, .int .i64 0, .int .i64 0, .int .i64 0, .string (⟨#[]⟩ : ByteArray), .bool false, .slice none 0 0, .slice none 0 0, .slice none 0 0]) ?_ 2 _ rfl; (with_reducible repeat (first | refine k1_ ?_ _ | refine k2_ ?_ | refine k3_ ?_ _)); refine blk_put (cs := #[.string ((rd_T30 l0_9 x20_2).f0), .bool false, .int .i64 0, .int .i64 0, .bool false, .int .i64 0, .int .i64 0, .int .i64 0, .string (⟨#[]⟩ : ByteArray), .bool false, .slice none 0 0, .slice none 0 0, .slice none 0 0]) ?_ 1 _ rfl; (with_reducible repeat (first | refine k1_ ?_ _ | refine k2_ ?_ | refine k3_ ?_ _)); refine blk_put (cs := #[.string (⟨#[]⟩ : ByteArray), .bool false, .int .i64 0, .int .i64 0, .bool false, .int .i64 0, .int .i64 0, .int .i64 0, .string (⟨#[]⟩ : ByteArray), .bool false, .slice none 0 0, .slice none 0 0, .slice none 0 0]) ?_ 0 _ rfl; (with_reducible repeat (first | refine k1_ ?_ _ | refine k2_ ?_ | refine k3_ ?_ _)); exact BK113.out) hb); have n2_ := a0_ (below_step (by repeat (first | (with_reducible first | exact HB.out | apply b1_ | apply b2_ | apply b3_ | refine b4_ ?_ GE110.out | refine b4_ ?_ GE113.out) | exact HB.out)) hb); clear BK110; clear BK113; clear HB; have BK110 := n0_; have BK113 := n1_; have HB := n2_; clear n0_ n1_ n2_; (try clear hb); (try clear hb2); (try clear hk); (try clear hi)))
          go_ret
          exact ⟨by first | rfl | (simp [e1_, e2_] <;> rfl) | (simp [*, e1_, e2_] <;> rfl), by repeat (first | (with_reducible first | exact HB.out | apply b1_ | apply b2_ | apply b3_ | refine b4_ ?_ GE110.out | refine b4_ ?_ GE113.out) | exact HB.out)⟩
         ·
          replace c14 := Bool.eq_false_iff.mpr c14
          subst c14
          have H1 : (spec_narrowRuns.l0 k2 l0_9 (l0_9.length : Int) (wrap64 (x20_2 + 1))) = some r := by rw [if_neg (show ¬ (false = true) by decide)] at H; exact H
          clear H
          have H := H1
          clear H1
          have H' := a0_ H
          clear H
          have p112 : 0 ≤ (x20_2 : Int) := d1_ (by first | (with_reducible assumption) | assumption)
          have q112 : x20_2 < (l0_9.length : Int) := d1_ (by first | (with_reducible assumption) | assumption)
          obtain ⟨ad112, A112_10, c112_10, A112_11, c112_11, A112_12, c112_12, e112, hx112_0, hx112_1, hx112_2, hx112_3, hx112_4, hx112_5, hx112_6, hx112_7, hx112_8, hx112_9, hx112_10, hx112_11, hx112_12, hl112_10, hi112_10, hl112_11, hi112_11, hl112_12, hi112_12⟩ := at_T30 HR0_9.out x20_2 p112 q112
          cases e112
          replace hx112_0 := (HB.out.cell (World.block_lt_of_cell? w _ hx112_0)).trans hx112_0
          replace hx112_1 := (HB.out.cell (World.block_lt_of_cell? w _ hx112_1)).trans hx112_1
          replace hx112_2 := (HB.out.cell (World.block_lt_of_cell? w _ hx112_2)).trans hx112_2
          replace hx112_3 := (HB.out.cell (World.block_lt_of_cell? w _ hx112_3)).trans hx112_3
          replace hx112_4 := (HB.out.cell (World.block_lt_of_cell? w _ hx112_4)).trans hx112_4
          replace hx112_5 := (HB.out.cell (World.block_lt_of_cell? w _ hx112_5)).trans hx112_5
          replace hx112_6 := (HB.out.cell (World.block_lt_of_cell? w _ hx112_6)).trans hx112_6
          replace hx112_7 := (HB.out.cell (World.block_lt_of_cell? w _ hx112_7)).trans hx112_7
          replace hx112_8 := (HB.out.cell (World.block_lt_of_cell? w _ hx112_8)).trans hx112_8
          replace hx112_9 := (HB.out.cell (World.block_lt_of_cell? w _ hx112_9)).trans hx112_9
          replace hx112_10 := (HB.out.cell (World.block_lt_of_cell? w _ hx112_10)).trans hx112_10
          replace hx112_11 := (HB.out.cell (World.block_lt_of_cell? w _ hx112_11)).trans hx112_11
          replace hx112_12 := (HB.out.cell (World.block_lt_of_cell? w _ hx112_12)).trans hx112_12
          have HR112_10 := a0_ hi112_10
          have HC112_10 := a0_ hl112_10
          clear hi112_10 hl112_10
          have HR112_11 := a0_ hi112_11
          have HC112_11 := a0_ hl112_11
          clear hi112_11 hl112_11
          have HR112_12 := a0_ hi112_12
          have HC112_12 := a0_ hl112_12
          clear hi112_12 hl112_12
          replace p112 := eq_true p112
          replace q112 := eq_true q112
          go_wp2_with (first | ((with_reducible refine gate_dst (N := 4) rfl ?_); refine box_event ?hg (N := 4) ?hd (cs := #[.string (⟨#[]⟩ : ByteArray), .bool false, .int .i64 0, .int .i64 0, .bool false, .int .i64 0, .int .i64 0, .int .i64 0, .string (⟨#[]⟩ : ByteArray), .bool false, .slice none 0 0, .slice none 0 0, .slice none 0 0]) (t := 30) ?hr ?_; (case hd => rfl); (case hg => rfl); (case hr => first | (go_simp; done) | (go_simp; rfl)); intro gb113 hg w19 hbox hb; have n0_ := a0_ (blk_below (g := gb110) (o := .cells #[.int .i64 a0_0, .int .i64 a0_1, .bool a0_2, .int .i64 a0_3, .int .i64 a0_4, .int .i64 a0_5, .string a0_6, .bool a0_7, .slice A0_8 l0_8.length c0_8, .slice (some ad112) l0_9.length c0_9] 28 (0, 0)) (by (with_reducible repeat (first | refine k1_ ?_ _ | refine k2_ ?_ | refine k3_ ?_ _)); exact BK110.out) hb); have n1_ := a0_ (below_step (by repeat (first | (with_reducible first | exact HB.out | apply b1_ | apply b2_ | apply b3_ | refine b4_ ?_ GE110.out) | exact HB.out)) hb); have n2_ := a0_ (hbox); have n3_ := a0_ ((by rw [hg]; exact (below_size (by repeat (first | (with_reducible first | exact HB.out | apply b1_ | apply b2_ | apply b3_ | refine b4_ ?_ GE110.out) | exact HB.out))) : w.heap.size ≤ gb113)); have n4_ := a0_ ((by rw [hg]; exact (below_size (by repeat (first | (with_reducible first | exact HB.out | apply b1_ | apply b2_ | apply b3_ | refine b4_ ?_ GE110.out) | exact HB.out))) : w.heap.size ≤ gb113)); have n5_ := a0_ ((by rw [hg]; exact Nat.ne_of_lt (blk_lt (g := gb110) (o := .cells #[.int .i64 a0_0, .int .i64 a0_1, .bool a0_2, .int .i64 a0_3, .int .i64 a0_4, .int .i64 a0_5, .string a0_6, .bool a0_7, .slice A0_8 l0_8.length c0_8, .slice (some ad112) l0_9.length c0_9] 28 (0, 0)) (by (with_reducible repeat (first | refine k1_ ?_ _ | refine k2_ ?_ | refine k3_ ?_ _)); exact BK110.out)) : gb110 ≠ gb113)); have n6_ := a0_ ((by rw [hg]; exact Nat.ne_of_gt (blk_lt (g := gb110) (o := .cells #[.int .i64 a0_0, .int .i64 a0_1, .bool a0_2, .int .i64 a0_3, .int .i64 a0_4, .int .i64 a0_5, .string a0_6, .bool a0_7, .slice A0_8 l0_8.length c0_8, .slice (some ad112) l0_9.length c0_9] 28 (0, 0)) (by (with_reducible repeat (first | refine k1_ ?_ _ | refine k2_ ?_ | refine k3_ ?_ _)); exact BK110.out)) : gb113 ≠ gb110)); clear BK110; clear HB; have BK110 := n0_; have HB := n1_; have BK113 := n2_; have GW113 := n3_; have GE113 := n4_; have NB110_113 := n5_; have NB113_110 := n6_; clear n0_ n1_ n2_ n3_ n4_ n5_ n6_; clear hb hbox hg; have hnb20 := NB113_110.out; have hnc20 := NB110_113.out; have hcz21_0 : w19.cell? ⟨gb113, 0, none⟩ = some (.string (⟨#[]⟩ : ByteArray)) := (blk_cell BK113.out 0).trans rfl; have hcz21_1 : w19.cell? ⟨gb113, 1, none⟩ = some (.bool false) := (blk_cell BK113.out 1).trans rfl; have hcz21_2 : w19.cell? ⟨gb113, 2, none⟩ = some (.int .i64 0) := (blk_cell BK113.out 2).trans rfl; have hcz21_3 : w19.cell? ⟨gb113, 3, none⟩ = some (.int .i64 0) := (blk_cell BK113.out 3).trans rfl; have hcz21_4 : w19.cell? ⟨gb113, 4, none⟩ = some (.bool false) := (blk_cell BK113.out 4).trans rfl; have hcz21_5 : w19.cell? ⟨gb113, 5, none⟩ = some (.int .i64 0) := (blk_cell BK113.out 5).trans rfl; have hcz21_6 : w19.cell? ⟨gb113, 6, none⟩ = some (.int .i64 0) := (blk_cell BK113.out 6).trans rfl; have hcz21_7 : w19.cell? ⟨gb113, 7, none⟩ = some (.int .i64 0) := (blk_cell BK113.out 7).trans rfl; have hcz21_8 : w19.cell? ⟨gb113, 8, none⟩ = some (.string (⟨#[]⟩ : ByteArray)) := (blk_cell BK113.out 8).trans rfl; have hcz21_9 : w19.cell? ⟨gb113, 9, none⟩ = some (.bool false) := (blk_cell BK113.out 9).trans rfl; have hcz21_10 : w19.cell? ⟨gb113, 10, none⟩ = some (.slice none 0 0) := (blk_cell BK113.out 10).trans rfl; have hcz21_11 : w19.cell? ⟨gb113, 11, none⟩ = some (.slice none 0 0) := (blk_cell BK113.out 11).trans rfl; have hcz21_12 : w19.cell? ⟨gb113, 12, none⟩ = some (.slice none 0 0) := (blk_cell BK113.out 12).trans rfl; have hfz21_0 := blk_frozen BK113.out 0; have hfz21_1 := blk_frozen BK113.out 1; have hfz21_2 := blk_frozen BK113.out 2; have hfz21_3 := blk_frozen BK113.out 3; have hfz21_4 := blk_frozen BK113.out 4; have hfz21_5 := blk_frozen BK113.out 5; have hfz21_6 := blk_frozen BK113.out 6; have hfz21_7 := blk_frozen BK113.out 7; have hfz21_8 := blk_frozen BK113.out 8; have hfz21_9 := blk_frozen BK113.out 9; have hfz21_10 := blk_frozen BK113.out 10; have hfz21_11 := blk_frozen BK113.out 11; have hfz21_12 := blk_frozen BK113.out 12) | ((with_reducible refine gate_callee (f := 58) rfl ?_); refine goesL_ (some 26) rfl rfl Tryz.func58 (by kernel_rfl) rfl #[.agg #[.int .i64 ((rd_T30 l0_9 x20_2).f2.f0), .int .i64 ((rd_T30 l0_9 x20_2).f2.f1), .bool ((rd_T30 l0_9 x20_2).f2.f2), .int .i64 ((rd_T30 l0_9 x20_2).f2.f3), .int .i64 ((rd_T30 l0_9 x20_2).f2.f4), .int .i64 ((rd_T30 l0_9 x20_2).f2.f5), .string ((rd_T30 l0_9 x20_2).f2.f6), .bool ((rd_T30 l0_9 x20_2).f2.f7), .slice A112_10 ((rd_T30 l0_9 x20_2).f2.f8).length c112_10, .slice A112_11 ((rd_T30 l0_9 x20_2).f2.f9).length c112_11]] rfl (by (try simp only [List.map_toArray, List.map_cons, List.map_nil]); first | done | rfl | (simp only [List.length_drop, List.length_take]; rfl)) ?_; (with_reducible refine (ih k2 (by have := HJ1.out; have := HK2.out; omega) ((rd_T30 l0_9 x20_2).f2.f0) ((rd_T30 l0_9 x20_2).f2.f1) ((rd_T30 l0_9 x20_2).f2.f2) ((rd_T30 l0_9 x20_2).f2.f3) ((rd_T30 l0_9 x20_2).f2.f4) ((rd_T30 l0_9 x20_2).f2.f5) ((rd_T30 l0_9 x20_2).f2.f6) ((rd_T30 l0_9 x20_2).f2.f7) _ _ ((rd_T30 l0_9 x20_2).f2.f8) _ _ ((rd_T30 l0_9 x20_2).f2.f9) false _ ?side1 ?side2 ?side3 ?side4 A13.out).mono ?_); (case side1 => exact Kd.C_below HR112_10.out (by repeat (first | (with_reducible first | exact HB.out | apply b1_ | apply b2_ | apply b3_ | refine b4_ ?_ GE110.out | refine b4_ ?_ GE113.out) | exact HB.out))); (case side2 => exact HC112_10.out); (case side3 => exact Kd.C_below HR112_11.out (by repeat (first | (with_reducible first | exact HB.out | apply b1_ | apply b2_ | apply b3_ | refine b4_ ?_ GE110.out | refine b4_ ?_ GE113.out) | exact HB.out))); (case side4 => exact HC112_11.out); rintro e w22 ⟨rfl, hb⟩; refine ⟨_, rfl, ?_⟩; have n0_ := a0_ (blk_below (g := gb110) (o := .cells #[.int .i64 a0_0, .int .i64 a0_1, .bool a0_2, .int .i64 a0_3, .int .i64 a0_4, .int .i64 a0_5, .string a0_6, .bool a0_7, .slice A0_8 l0_8.length c0_8, .slice (some ad112) l0_9.length c0_9] 28 (0, 0)) (by (with_reducible repeat (first | refine k1_ ?_ _ | refine k2_ ?_ | refine k3_ ?_ _)); refine blk_far ?_ NB110_113.out _; (with_reducible repeat (first | refine k1_ ?_ _ | refine k2_ ?_ | refine k3_ ?_ _)); refine blk_far ?_ NB110_113.out _; (with_reducible repeat (first | refine k1_ ?_ _ | refine k2_ ?_ | refine k3_ ?_ _)); refine blk_far ?_ NB110_113.out _; (with_reducible repeat (first | refine k1_ ?_ _ | refine k2_ ?_ | refine k3_ ?_ _)); refine blk_far ?_ NB110_113.out _; (with_reducible repeat (first | refine k1_ ?_ _ | refine k2_ ?_ | refine k3_ ?_ _)); refine blk_far ?_ NB110_113.out _; (with_reducible repeat (first | refine k1_ ?_ _ | refine k2_ ?_ | refine k3_ ?_ _)); refine blk_far ?_ NB110_113.out _; (with_reducible repeat (first | refine k1_ ?_ _ | refine k2_ ?_ | refine k3_ ?_ _)); refine blk_far ?_ NB110_113.out _; (with_reducible repeat (first | refine k1_ ?_ _ | refine k2_ ?_ | refine k3_ ?_ _)); refine blk_far ?_ NB110_113.out _; (with_reducible repeat (first | refine k1_ ?_ _ | refine k2_ ?_ | refine k3_ ?_ _)); refine blk_far ?_ NB110_113.out _; (with_reducible repeat (first | refine k1_ ?_ _ | refine k2_ ?_ | refine k3_ ?_ _)); refine blk_far ?_ NB110_113.out _; (with_reducible repeat (first | refine k1_ ?_ _ | refine k2_ ?_ | refine k3_ ?_ _)); refine blk_far ?_ NB110_113.out _; (with_reducible repeat (first | refine k1_ ?_ _ | refine k2_ ?_ | refine k3_ ?_ _)); refine blk_far ?_ NB110_113.out _; (with_reducible repeat (first | refine k1_ ?_ _ | refine k2_ ?_ | refine k3_ ?_ _)); refine blk_far ?_ NB110_113.out _; (with_reducible repeat (first | refine k1_ ?_ _ | refine k2_ ?_ | refine k3_ ?_ _)); exact BK110.out) hb); have n1_ := a0_ (blk_below (g := gb113) (o := .cells #[.string ((rd_T30 l0_9 x20_2).f0), .bool ((rd_T30 l0_9 x20_2).f1), .int .i64 ((rd_T30 l0_9 x20_2).f2.f0), .int .i64 ((rd_T30 l0_9 x20_2).f2.f1), .bool ((rd_T30 l0_9 x20_2).f2.f2), .int .i64 ((rd_T30 l0_9 x20_2).f2.f3), .int .i64 ((rd_T30 l0_9 x20_2).f2.f4), .int .i64 ((rd_T30 l0_9 x20_2).f2.f5), .string ((rd_T30 l0_9 x20_2).f2.f6), .bool ((rd_T30 l0_9 x20_2).f2.f7), .slice A112_10 ((rd_T30 l0_9 x20_2).f2.f8).length c112_10, .slice A112_11 ((rd_T30 l0_9 x20_2).f2.f9).length c112_11, .slice A112_12 ((rd_T30 l0_9 x20_2).f3).length c112_12] 30 (0, 0)) (by (with_reducible repeat (first | refine k1_ ?_ _ | refine k2_ ?_ | refine k3_ ?_ _)); refine blk_put (cs := #[.string ((rd_T30 l0_9 x20_2).f0), .bool ((rd_T30 l0_9 x20_2).f1), .int .i64 ((rd_T30 l0_9 x20_2).f2.f0), .int .i64 ((rd_T30 l0_9 x20_2).f2.f1), .bool ((rd_T30 l0_9 x20_2).f2.f2), .int .i64 ((rd_T30 l0_9 x20_2).f2.f3), .int .i64 ((rd_T30 l0_9 x20_2).f2.f4), .int .i64 ((rd_T30 l0_9 x20_2).f2.f5), .string ((rd_T30 l0_9 x20_2).f2.f6), .bool ((rd_T30 l0_9 x20_2).f2.f7), .slice A112_10 ((rd_T30 l0_9 x20_2).f2.f8).length c112_10, .slice A112_11 ((rd_T30 l0_9 x20_2).f2.f9).length c112_11, .slice none 0 0]) ?_ 12 _ rfl; (with_reducible repeat (first | refine k1_ ?_ _ | refine k2_ ?_ | refine k3_ ?_ _)); refine blk_put (cs := #[.string ((rd_T30 l0_9 x20_2).f0), .bool ((rd_T30 l0_9 x20_2).f1), .int .i64 ((rd_T30 l0_9 x20_2).f2.f0), .int .i64 ((rd_T30 l0_9 x20_2).f2.f1), .bool ((rd_T30 l0_9 x20_2).f2.f2), .int .i64 ((rd_T30 l0_9 x20_2).f2.f3), .int .i64 ((rd_T30 l0_9 x20_2).f2.f4), .int .i64 ((rd_T30 l0_9 x20_2).f2.f5), .string ((rd_T30 l0_9 x20_2).f2.f6), .bool ((rd_T30 l0_9 x20_2).f2.f7), .slice A112_10 ((rd_T30 l0_9 x20_2).f2.f8).length c112_10, .slice none 0 0, .slice none 0 0]) ?_ 11 _ rfl; (with_reducible repeat (first | refine k1_ ?_ _ | refine k2_ ?_ | refine k3_ ?_ _)); refine blk_put (cs := #[.string ((rd_T30 l0_9 x20_2).f0), .bool ((rd_T30 l0_9 x20_2).f1), .int .i64 ((rd_T30 l0_9 x20_2).f2.f0), .int .i64 ((rd_T30 l0_9 x20_2).f2.f1), .bool ((rd_T30 l0_9 x20_2).f2.f2), .int .i64 ((rd_T30 l0_9 x20_2).f2.f3), .int .i64 ((rd_T30 l0_9 x20_2).f2.f4), .int .i64 ((rd_T30 l0_9 x20_2).f2.f5), .string ((rd_T30 l0_9 x20_2).f2.f6), .bool ((rd_T30 l0_9 x20_2).f2.f7), .slice none 0 0, .slice none 0 0, .slice none 0 0]) ?_ 10 _ rfl; (with_reducible repeat (first | refine k1_ ?_ _ | refine k2_ ?_ | refine k3_ ?_ _)); refine blk_put (cs := #[.string ((rd_T30 l0_9 x20_2).f0), .bool ((rd_T30 l0_9 x20_2).f1), .int .i64 ((rd_T30 l0_9 x20_2).f2.f0), .int .i64 ((rd_T30 l0_9 x20_2).f2.f1), .bool ((rd_T30 l0_9 x20_2).f2.f2), .int .i64 ((rd_T30 l0_9 x20_2).f2.f3), .int .i64 ((rd_T30 l0_9 x20_2).f2.f4), .int .i64 ((rd_T30 l0_9 x20_2).f2.f5), .string ((rd_T30 l0_9 x20_2).f2.f6), .bool false, .slice none 0 0, .slice none 0 0, .slice none 0 0]) ?_ 9 _ rfl; (with_reducible repeat (first | refine k1_ ?_ _ | refine k2_ ?_ | refine k3_ ?_ _)); refine blk_put (cs := #[.string ((rd_T30 l0_9 x20_2).f0), .bool ((rd_T30 l0_9 x20_2).f1), .int .i64 ((rd_T30 l0_9 x20_2).f2.f0), .int .i64 ((rd_T30 l0_9 x20_2).f2.f1), .bool ((rd_T30 l0_9 x20_2).f2.f2), .int .i64 ((rd_T30 l0_9 x20_2).f2.f3), .int .i64 ((rd_T30 l0_9 x20_2).f2.f4), .int .i64 ((rd_T30 l0_9 x20_2).f2.f5), .string (⟨#[]⟩ : ByteArray), .bool false, .slice none 0 0, .slice none 0 0, .slice none 0 0]) ?_ 8 _ rfl; (with_reducible repeat (first | refine k1_ ?_ _ | refine k2_ ?_ | refine k3_ ?_ _)); refine blk_put (cs := #[.string ((rd_T30 l0_9 x20_2).f0), .bool ((rd_T30 l0_9 x20_2).f1), .int .i64 ((rd_T30 l0_9 x20_2).f2.f0), .int .i64 ((rd_T30 l0_9 x20_2).f2.f1), .bool ((rd_T30 l0_9 x20_2).f2.f2), .int .i64 ((rd_T30 l0_9 x20_2).f2.f3), .int .i64 ((rd_T30 l0_9 x20_2).f2.f4), .int .i64 0, .string (⟨#[]⟩ : ByteArray), .bool false, .slice none 0 0, .slice none 0 0, .slice none 0 0]) ?_ 7 _ rfl; (with_reducible repeat (first | refine k1_ ?_ _ | refine k2_ ?_ | refine k3_ ?_ _)); refine blk_put (cs := #[.string ((rd_T30 l0_9 x20_2).f0), .bool ((rd_T30 l0_9 x20_2).f1), .int .i64 ((rd_T30 l0_9 x20_2).f2.f0), .int .i64 ((rd_T30 l0_9 x20_2).f2.f1), .bool ((rd_T30 l0_9 x20_2).f2.f2), .int .i64 ((rd_T30 l0_9 x20_2).f2.f3), .int .i64 0, .int .i64 0, .string (⟨#[]⟩ : ByteArray), .bool false, .slice none 0 0, .slice none 0 0, .slice none 0 0]) ?_ 6 _ rfl; (with_reducible repeat (first | refine k1_ ?_ _ | refine k2_ ?_ | refine k3_ ?_ _)); refine blk_put (cs := #[.string ((rd_T30 l0_9 x20_2).f0), .bool ((rd_T30 l0_9 x20_2).f1), .int .i64 ((rd_T30 l0_9 x20_2).f2.f0), .int .i64 ((rd_T30 l0_9 x20_2).f2.f1), .bool ((rd_T30 l0_9 x20_2).f2.f2), .int .i64 0, .int .i64 0, .int .i64 0, .string (⟨#[]⟩ : ByteArray), .bool false, .slice none 0 0, .slice none 0 0, .slice none 0 0]) ?_ 5 _ rfl; (with_reducible repeat (first | refine k1_ ?_ _ | refine k2_ ?_ | refine k3_ ?_ _)); refine blk_put (cs := #[.string ((rd_T30 l0_9 x20_2).f0), .bool ((rd_T30 l0_9 x20_2).f1), .int .i64 ((rd_T30 l0_9 x20_2).f2.f0), .int .i64 ((rd_T30 l0_9 x20_2).f2.f1), .bool false, .int .i64 0, .int .i64 0, .int .i64 0, .string (⟨#[]⟩ : ByteArray), .bool false, .slice none 0 0, .slice none 0 0, .slice none 0 0]) ?_ 4 _ rfl; (with_reducible repeat (first | refine k1_ ?_ _ | refine k2_ ?_ | refine k3_ ?_ _)); refine blk_put (cs := #[.string ((rd_T30 l0_9 x20_2).f0), .bool ((rd_T30 l0_9 x20_2).f1), .int .i64 ((rd_T30 l0_9 x20_2).f2.f0), .int .i64 0, .bool false, .int .i64 0, .int .i64 0, .int .i64 0, .string (⟨#[]⟩ : ByteArray), .bool false, .slice none 0 0, .slice none 0 0, .slice none 0 0]) ?_ 3 _ rfl; (with_reducible repeat (first | refine k1_ ?_ _ | refine k2_ ?_ | refine k3_ ?_ _)); refine blk_put (cs := #[.string ((rd_T30 l0_9 x20_2).f0), .bool ((rd_T30 l0_9 x20_2).f1), .int .i64 0, .int .i64 0, .bool false, .int .i64 0, .int .i64 0, .int .i64 0, .string (⟨#[]⟩ : ByteArray), .bool false, .slice none 0 0, .slice none 0 0, .slice none 0 0]) ?_ 2 _ rfl; (with_reducible repeat (first | refine k1_ ?_ _ | refine k2_ ?_ | refine k3_ ?_ _)); refine blk_put (cs := #[.string ((rd_T30 l0_9 x20_2).f0), .bool false, .int .i64 0, .int .i64 0, .bool false, .int .i64 0, .int .i64 0, .int .i64 0, .string (⟨#[]⟩ : ByteArray), .bool false, .slice none 0 0, .slice none 0 0, .slice none 0 0]) ?_ 1 _ rfl; (with_reducible repeat (first | refine k1_ ?_ _ | refine k2_ ?_ | refine k3_ ?_ _)); refine blk_put (cs := #[.string (⟨#[]⟩ : ByteArray), .bool false, .int .i64 0, .int .i64 0, .bool false, .int .i64 0, .int .i64 0, .int .i64 0, .string (⟨#[]⟩ : ByteArray), .bool false, .slice none 0 0, .slice none 0 0, .slice none 0 0]) ?_ 0 _ rfl; (with_reducible repeat (first | refine k1_ ?_ _ | refine k2_ ?_ | refine k3_ ?_ _)); exact BK113.out) hb); have n2_ := a0_ (below_step (by repeat (first | (with_reducible first | exact HB.out | apply b1_ | apply b2_ | apply b3_ | refine b4_ ?_ GE110.out | refine b4_ ?_ GE113.out) | exact HB.out)) hb); clear BK110; clear BK113; clear HB; have BK110 := n0_; have BK113 := n1_; have HB := n2_; clear n0_ n1_ n2_; (try clear hb); (try clear hb2); (try clear hk); (try clear hi)))
          go_roundg k2
          case measure => have := HJ1.out; have := HK2.out; omega
          case rel => exact ⟨(wrap64 (x20_2 + 1)), (by first | rfl | (simp; done) | (simp [*]; done)), H', ⟨by have := HJ1.out; have := HK2.out; omega⟩, ⟨by (with_reducible repeat (first | refine k1_ ?_ _ | refine k2_ ?_ | refine k3_ ?_ _)); exact BK110.out⟩, ⟨by repeat (first | (with_reducible first | exact HB.out | apply b1_ | apply b2_ | apply b3_ | refine b4_ ?_ GE110.out | refine b4_ ?_ GE113.out) | exact HB.out)⟩⟩
        ·
         rw [if_neg c12] at H
         exact absurd H (by simp)
       ·
        rw [if_neg c11] at H
        exact absurd H (by simp)
      ·
       rw [if_neg c10] at H
       have c10b0 : decide (x20_2 < (l0_9.length : Int)) = false := d3_ c10
       clear c10
       obtain rfl := o1_ H
       go_wp2
       go_ret
       exact ⟨by first | rfl | (simp [e1_, e2_] <;> rfl) | (simp [*, e1_, e2_] <;> rfl), by repeat (first | (with_reducible first | exact HB.out | apply b1_ | apply b2_ | apply b3_ | refine b4_ ?_ GE110.out) | exact HB.out)⟩
mutual
def spec_HasKind.l0 : Nat → List Int → List (S30) → Int → Int → Option (Bool)
 | 0, _, _, _, _ => none
 | k + 1, x1, x12, x13, x14 => if x14 < x13 then (if 0 ≤ x14 then (if x14 < (x12.length : Int) then ((spec_HasKind.f k ((rd_T30 x12 x14).f2.f0) ((rd_T30 x12 x14).f2.f1) ((rd_T30 x12 x14).f2.f2) ((rd_T30 x12 x14).f2.f3) ((rd_T30 x12 x14).f2.f4) ((rd_T30 x12 x14).f2.f5) ((rd_T30 x12 x14).f2.f6) ((rd_T30 x12 x14).f2.f7) ((rd_T30 x12 x14).f2.f8) ((rd_T30 x12 x14).f2.f9) x1).bind fun t123 => (if t123 = true then (some true) else (spec_HasKind.l0 k x1 x12 x13 (wrap64 (x14 + 1))))) else (none)) else (none)) else (some false)
def spec_HasKind.f : Nat → Int → Int → Bool → Int → Int → Int → ByteArray → Bool → List Int → List (S30) → List Int → Option (Bool)
 | 0, _, _, _, _, _, _, _, _, _, _, _ => none
 | k + 1, a0_0, a0_1, a0_2, a0_3, a0_4, a0_5, a0_6, a0_7, l0_8, l0_9, l1 => (spec_in.f k a0_0 l1).bind fun t120 => (if t120 = true then (some true) else (spec_HasKind.l0 k l1 l0_9 (l0_9.length : Int) 0))
end
theorem spec_HasKind.calls (k : Nat) : ∀ (a0_0 : Int) (a0_1 : Int) (a0_2 : Bool) (a0_3 : Int) (a0_4 : Int) (a0_5 : Int) (a0_6 : ByteArray) (a0_7 : Bool) (A0_8 : Option Addr) (c0_8 : Nat) (l0_8 : List Int) (A0_9 : Option Addr) (c0_9 : Nat) (l0_9 : List (S30)) (A1 : Option Addr) (c1 : Nat) (l1 : List Int) (r : Bool) (w : World) (hr0_8 : Kd.C (Kd.int .i64) w A0_8 l0_8.length l0_8) (hc0_8 : l0_8.length ≤ c0_8) (hr0_9 : Kd.C k30 w A0_9 l0_9.length l0_9) (hc0_9 : l0_9.length ≤ c0_9) (hr1 : Kd.C (Kd.int .i64) w A1 l1.length l1) (hc1 : l1.length ≤ c1) (h : spec_HasKind.f k a0_0 a0_1 a0_2 a0_3 a0_4 a0_5 a0_6 a0_7 l0_8 l0_9 l1 = some r),
 Calls Tryz.prog 60 #[.agg #[.int .i64 a0_0, .int .i64 a0_1, .bool a0_2, .int .i64 a0_3, .int .i64 a0_4, .int .i64 a0_5, .string a0_6, .bool a0_7, .slice A0_8 l0_8.length c0_8, .slice A0_9 l0_9.length c0_9], .slice A1 l1.length c1] w fun e w' => e = .returned (.bool r) ∧ Below w.heap.size w w' := by
 induction k using Nat.strongRecOn with
 | _ k ih =>
 intro a0_0 a0_1 a0_2 a0_3 a0_4 a0_5 a0_6 a0_7 A0_8 c0_8 l0_8 A0_9 c0_9 l0_9 A1 c1 l1 r w hr0_8 hc0_8 hr0_9 hc0_9 hr1 hc1 h
 cases k with
 | zero => exact absurd h (by simp [spec_HasKind.f])
 | succ k =>
 simp only [spec_HasKind.f] at h
 have hu28 := Tryz.underlying28
 have hu30 := Tryz.underlying30
 have HR0_8 := a0_ hr0_8
 have HC0_8 := a0_ hc0_8
 clear hr0_8 hc0_8
 have HR0_9 := a0_ hr0_9
 have HC0_9 := a0_ hc0_9
 clear hr0_9 hc0_9
 have HR1 := a0_ hr1
 have HC1 := a0_ hc1
 clear hr1 hc1
 have HB := a0_ (Below.refl w.heap.size w)
 have H : ((spec_in.f k a0_0 l1).bind fun t120 => (if t120 = true then (some true) else (spec_HasKind.l0 k l1 l0_9 (l0_9.length : Int) 0))) = some r := h
 clear h
 replace H := Option.bind_eq_some_iff.mp H
 obtain ⟨t120, A30, H⟩ := H
 replace H : (if t120 = true then (some true) else (spec_HasKind.l0 k l1 l0_9 (l0_9.length : Int) 0)) = some r := H
 have A3 := a0_ A30
 clear A30
 by_cases c4 : t120 = true
 ·
  subst c4
  have H1 : (some true) = some r := by rw [if_pos rfl] at H; exact H
  clear H
  have H := H1
  clear H1
  obtain rfl := o1_ H
  go_enter Tryz.func60, Tryz.ntmps60
  go_wp2_with (first | ((with_reducible refine gate_dst (N := 2) rfl ?_); refine box_event ?hg (N := 2) ?hd (cs := #[.int .i64 a0_0, .int .i64 a0_1, .bool a0_2, .int .i64 a0_3, .int .i64 a0_4, .int .i64 a0_5, .string a0_6, .bool a0_7, .slice A0_8 l0_8.length c0_8, .slice A0_9 l0_9.length c0_9]) (t := 28) ?hr ?_; (case hd => rfl); (case hg => rfl); (case hr => first | (go_simp; done) | (go_simp; rfl)); intro gb119 hg w5 hbox hb; have n0_ := a0_ (below_step (by repeat (first | (with_reducible first | exact HB.out | apply b1_ | apply b2_ | apply b3_) | exact HB.out)) hb); have n1_ := a0_ (hbox); have n2_ := a0_ ((by rw [hg]; exact (below_size (by repeat (first | (with_reducible first | exact HB.out | apply b1_ | apply b2_ | apply b3_) | exact HB.out))) : w.heap.size ≤ gb119)); have n3_ := a0_ ((by rw [hg]; exact (below_size (by repeat (first | (with_reducible first | exact HB.out | apply b1_ | apply b2_ | apply b3_) | exact HB.out))) : w.heap.size ≤ gb119)); clear HB; have HB := n0_; have BK119 := n1_; have GW119 := n2_; have GE119 := n3_; clear n0_ n1_ n2_ n3_; clear hb hbox hg; have hcz6_0 : w5.cell? ⟨gb119, 0, none⟩ = some (.int .i64 a0_0) := (blk_cell BK119.out 0).trans rfl; have hcz6_1 : w5.cell? ⟨gb119, 1, none⟩ = some (.int .i64 a0_1) := (blk_cell BK119.out 1).trans rfl; have hcz6_2 : w5.cell? ⟨gb119, 2, none⟩ = some (.bool a0_2) := (blk_cell BK119.out 2).trans rfl; have hcz6_3 : w5.cell? ⟨gb119, 3, none⟩ = some (.int .i64 a0_3) := (blk_cell BK119.out 3).trans rfl; have hcz6_4 : w5.cell? ⟨gb119, 4, none⟩ = some (.int .i64 a0_4) := (blk_cell BK119.out 4).trans rfl; have hcz6_5 : w5.cell? ⟨gb119, 5, none⟩ = some (.int .i64 a0_5) := (blk_cell BK119.out 5).trans rfl; have hcz6_6 : w5.cell? ⟨gb119, 6, none⟩ = some (.string a0_6) := (blk_cell BK119.out 6).trans rfl; have hcz6_7 : w5.cell? ⟨gb119, 7, none⟩ = some (.bool a0_7) := (blk_cell BK119.out 7).trans rfl; have hcz6_8 : w5.cell? ⟨gb119, 8, none⟩ = some (.slice A0_8 l0_8.length c0_8) := (blk_cell BK119.out 8).trans rfl; have hcz6_9 : w5.cell? ⟨gb119, 9, none⟩ = some (.slice A0_9 l0_9.length c0_9) := (blk_cell BK119.out 9).trans rfl; have hfz6_0 := blk_frozen BK119.out 0; have hfz6_1 := blk_frozen BK119.out 1; have hfz6_2 := blk_frozen BK119.out 2; have hfz6_3 := blk_frozen BK119.out 3; have hfz6_4 := blk_frozen BK119.out 4; have hfz6_5 := blk_frozen BK119.out 5; have hfz6_6 := blk_frozen BK119.out 6; have hfz6_7 := blk_frozen BK119.out 7; have hfz6_8 := blk_frozen BK119.out 8; have hfz6_9 := blk_frozen BK119.out 9) | ((with_reducible refine gate_callee (f := 56) rfl ?_); refine goesL_ (some 10) rfl rfl Tryz.func56 (by kernel_rfl) rfl #[.int .i64 a0_0, .slice A1 l1.length c1] rfl (by (try simp only [List.map_toArray, List.map_cons, List.map_nil]); first | done | rfl | (simp only [List.length_drop, List.length_take]; rfl)) ?_; (with_reducible refine (spec_in.calls k a0_0 _ _ l1 true _ ?side1 ?side2 A3.out).mono ?_); (case side1 => repeat (first | exact (Kd.C_below HR1.out HB.out) | (with_reducible refine Kd.C_alloc ?_ _) | (with_reducible refine Kd.C_drewN ?_ _) | (with_reducible refine Kd.C_drew ?_))); (case side2 => exact HC1.out); rintro e w' ⟨rfl, ⟨nd, rfl⟩⟩; refine ⟨_, rfl, ?_⟩))
  go_ret
  exact ⟨by first | rfl | (simp [e1_, e2_] <;> rfl) | (simp [*, e1_, e2_] <;> rfl), by repeat (first | (with_reducible first | exact HB.out | apply b1_ | apply b2_ | apply b3_ | refine b4_ ?_ GE119.out) | exact HB.out)⟩
 ·
  replace c4 := Bool.eq_false_iff.mpr c4
  subst c4
  have H1 : (spec_HasKind.l0 k l1 l0_9 (l0_9.length : Int) 0) = some r := by rw [if_neg (show ¬ (false = true) by decide)] at H; exact H
  clear H
  have H := H1
  clear H1
  have H' := a0_ H
  clear H
  go_enter Tryz.func60, Tryz.ntmps60
  go_wp2_with (first | ((with_reducible refine gate_dst (N := 2) rfl ?_); refine box_event ?hg (N := 2) ?hd (cs := #[.int .i64 a0_0, .int .i64 a0_1, .bool a0_2, .int .i64 a0_3, .int .i64 a0_4, .int .i64 a0_5, .string a0_6, .bool a0_7, .slice A0_8 l0_8.length c0_8, .slice A0_9 l0_9.length c0_9]) (t := 28) ?hr ?_; (case hd => rfl); (case hg => rfl); (case hr => first | (go_simp; done) | (go_simp; rfl)); intro gb119 hg w7 hbox hb; have n0_ := a0_ (below_step (by repeat (first | (with_reducible first | exact HB.out | apply b1_ | apply b2_ | apply b3_) | exact HB.out)) hb); have n1_ := a0_ (hbox); have n2_ := a0_ ((by rw [hg]; exact (below_size (by repeat (first | (with_reducible first | exact HB.out | apply b1_ | apply b2_ | apply b3_) | exact HB.out))) : w.heap.size ≤ gb119)); have n3_ := a0_ ((by rw [hg]; exact (below_size (by repeat (first | (with_reducible first | exact HB.out | apply b1_ | apply b2_ | apply b3_) | exact HB.out))) : w.heap.size ≤ gb119)); clear HB; have HB := n0_; have BK119 := n1_; have GW119 := n2_; have GE119 := n3_; clear n0_ n1_ n2_ n3_; clear hb hbox hg; have hcz8_0 : w7.cell? ⟨gb119, 0, none⟩ = some (.int .i64 a0_0) := (blk_cell BK119.out 0).trans rfl; have hcz8_1 : w7.cell? ⟨gb119, 1, none⟩ = some (.int .i64 a0_1) := (blk_cell BK119.out 1).trans rfl; have hcz8_2 : w7.cell? ⟨gb119, 2, none⟩ = some (.bool a0_2) := (blk_cell BK119.out 2).trans rfl; have hcz8_3 : w7.cell? ⟨gb119, 3, none⟩ = some (.int .i64 a0_3) := (blk_cell BK119.out 3).trans rfl; have hcz8_4 : w7.cell? ⟨gb119, 4, none⟩ = some (.int .i64 a0_4) := (blk_cell BK119.out 4).trans rfl; have hcz8_5 : w7.cell? ⟨gb119, 5, none⟩ = some (.int .i64 a0_5) := (blk_cell BK119.out 5).trans rfl; have hcz8_6 : w7.cell? ⟨gb119, 6, none⟩ = some (.string a0_6) := (blk_cell BK119.out 6).trans rfl; have hcz8_7 : w7.cell? ⟨gb119, 7, none⟩ = some (.bool a0_7) := (blk_cell BK119.out 7).trans rfl; have hcz8_8 : w7.cell? ⟨gb119, 8, none⟩ = some (.slice A0_8 l0_8.length c0_8) := (blk_cell BK119.out 8).trans rfl; have hcz8_9 : w7.cell? ⟨gb119, 9, none⟩ = some (.slice A0_9 l0_9.length c0_9) := (blk_cell BK119.out 9).trans rfl; have hfz8_0 := blk_frozen BK119.out 0; have hfz8_1 := blk_frozen BK119.out 1; have hfz8_2 := blk_frozen BK119.out 2; have hfz8_3 := blk_frozen BK119.out 3; have hfz8_4 := blk_frozen BK119.out 4; have hfz8_5 := blk_frozen BK119.out 5; have hfz8_6 := blk_frozen BK119.out 6; have hfz8_7 := blk_frozen BK119.out 7; have hfz8_8 := blk_frozen BK119.out 8; have hfz8_9 := blk_frozen BK119.out 9) | ((with_reducible refine gate_callee (f := 56) rfl ?_); refine goesL_ (some 10) rfl rfl Tryz.func56 (by kernel_rfl) rfl #[.int .i64 a0_0, .slice A1 l1.length c1] rfl (by (try simp only [List.map_toArray, List.map_cons, List.map_nil]); first | done | rfl | (simp only [List.length_drop, List.length_take]; rfl)) ?_; (with_reducible refine (spec_in.calls k a0_0 _ _ l1 false _ ?side1 ?side2 A3.out).mono ?_); (case side1 => repeat (first | exact (Kd.C_below HR1.out HB.out) | (with_reducible refine Kd.C_alloc ?_ _) | (with_reducible refine Kd.C_drewN ?_ _) | (with_reducible refine Kd.C_drew ?_))); (case side2 => exact HC1.out); rintro e w' ⟨rfl, ⟨nd, rfl⟩⟩; refine ⟨_, rfl, ?_⟩))
  go_loopg [14] k (fun kq v14 w' => ∃ (x14_1 : Int), v14 = .int .i64 x14_1 ∧ Aside0 (spec_HasKind.l0 kq l1 l0_9 (l0_9.length : Int) x14_1 = some r) ∧ Aside0 (kq ≤ k) ∧ Aside0 (w'.heap[gb119]? = some (.cells #[.int .i64 a0_0, .int .i64 a0_1, .bool a0_2, .int .i64 a0_3, .int .i64 a0_4, .int .i64 a0_5, .string a0_6, .bool a0_7, (.slice A0_8 l0_8.length c0_8), (.slice A0_9 l0_9.length c0_9)] 28 (0, 0))) ∧ Aside0 (Below w.heap.size w w'))
  case atStart => exact ⟨(0), (by first | rfl | (simp; done) | (simp [*]; done)), H', ⟨Nat.le_refl _⟩, ⟨by (with_reducible repeat (first | refine k1_ ?_ _ | refine k2_ ?_ | refine k3_ ?_ _)); exact BK119.out⟩, ⟨by repeat (first | (with_reducible first | exact HB.out | apply b1_ | apply b2_ | apply b3_ | refine b4_ ?_ GE119.out) | exact HB.out)⟩⟩
  case round =>
   clear H'
   try clear c1
   try clear p2
   try clear c4
   try clear c5
   try clear c6
   try clear hcz6_0
   try clear hcz6_1
   try clear hcz6_2
   try clear hcz6_3
   try clear hcz6_4
   try clear hcz6_5
   try clear hcz6_6
   try clear hcz6_7
   try clear hcz6_8
   try clear hcz6_9
   try clear hcz8_0
   try clear hcz8_1
   try clear hcz8_2
   try clear hcz8_3
   try clear hcz8_4
   try clear hcz8_5
   try clear hcz8_6
   try clear hcz8_7
   try clear hcz8_8
   try clear hcz8_9
   try clear hfz6_0
   try clear hfz6_1
   try clear hfz6_2
   try clear hfz6_3
   try clear hfz6_4
   try clear hfz6_5
   try clear hfz6_6
   try clear hfz6_7
   try clear hfz6_8
   try clear hfz6_9
   try clear hfz8_0
   try clear hfz8_1
   try clear hfz8_2
   try clear hfz8_3
   try clear hfz8_4
   try clear hfz8_5
   try clear hfz8_6
   try clear hfz8_7
   try clear hfz8_8
   try clear hfz8_9
   obtain ⟨x14_1, rfl, HA, HK1, BK119, HB⟩ := hrel
   cases gk with
   | zero => exact absurd HA.out (by simp [spec_HasKind.l0])
   | succ k1 =>
    have H := HA.out
    clear HA
    simp only [spec_HasKind.l0] at H
    by_cases c9 : x14_1 < (l0_9.length : Int)
    ·
     rw [if_pos c9] at H
     have c9b0 : decide (x14_1 < (l0_9.length : Int)) = true := d2_ c9
     clear c9
     by_cases c10 : 0 ≤ x14_1
     ·
      rw [if_pos c10] at H
      have c10b0 : decide (0 ≤ x14_1) = true := d2_ c10
      clear c10
      by_cases c11 : x14_1 < (l0_9.length : Int)
      ·
       rw [if_pos c11] at H
       have c11b0 : decide (x14_1 < (l0_9.length : Int)) = true := d2_ c11
       clear c11
       replace H := Option.bind_eq_some_iff.mp H
       obtain ⟨t123, A120, H⟩ := H
       replace H : (if t123 = true then (some true) else (spec_HasKind.l0 k1 l1 l0_9 (l0_9.length : Int) (wrap64 (x14_1 + 1)))) = some r := H
       have A12 := a0_ A120
       clear A120
       by_cases c13 : t123 = true
       ·
        subst c13
        have H1 : (some true) = some r := by rw [if_pos rfl] at H; exact H
        clear H
        have H := H1
        clear H1
        obtain rfl := o1_ H
        have p121 : 0 ≤ (x14_1 : Int) := d1_ (by first | (with_reducible assumption) | assumption)
        have q121 : x14_1 < (l0_9.length : Int) := d1_ (by first | (with_reducible assumption) | assumption)
        obtain ⟨ad121, A121_10, c121_10, A121_11, c121_11, A121_12, c121_12, e121, hx121_0, hx121_1, hx121_2, hx121_3, hx121_4, hx121_5, hx121_6, hx121_7, hx121_8, hx121_9, hx121_10, hx121_11, hx121_12, hl121_10, hi121_10, hl121_11, hi121_11, hl121_12, hi121_12⟩ := at_T30 HR0_9.out x14_1 p121 q121
        cases e121
        replace hx121_0 := (HB.out.cell (World.block_lt_of_cell? w _ hx121_0)).trans hx121_0
        replace hx121_1 := (HB.out.cell (World.block_lt_of_cell? w _ hx121_1)).trans hx121_1
        replace hx121_2 := (HB.out.cell (World.block_lt_of_cell? w _ hx121_2)).trans hx121_2
        replace hx121_3 := (HB.out.cell (World.block_lt_of_cell? w _ hx121_3)).trans hx121_3
        replace hx121_4 := (HB.out.cell (World.block_lt_of_cell? w _ hx121_4)).trans hx121_4
        replace hx121_5 := (HB.out.cell (World.block_lt_of_cell? w _ hx121_5)).trans hx121_5
        replace hx121_6 := (HB.out.cell (World.block_lt_of_cell? w _ hx121_6)).trans hx121_6
        replace hx121_7 := (HB.out.cell (World.block_lt_of_cell? w _ hx121_7)).trans hx121_7
        replace hx121_8 := (HB.out.cell (World.block_lt_of_cell? w _ hx121_8)).trans hx121_8
        replace hx121_9 := (HB.out.cell (World.block_lt_of_cell? w _ hx121_9)).trans hx121_9
        replace hx121_10 := (HB.out.cell (World.block_lt_of_cell? w _ hx121_10)).trans hx121_10
        replace hx121_11 := (HB.out.cell (World.block_lt_of_cell? w _ hx121_11)).trans hx121_11
        replace hx121_12 := (HB.out.cell (World.block_lt_of_cell? w _ hx121_12)).trans hx121_12
        have HR121_10 := a0_ hi121_10
        have HC121_10 := a0_ hl121_10
        clear hi121_10 hl121_10
        have HR121_11 := a0_ hi121_11
        have HC121_11 := a0_ hl121_11
        clear hi121_11 hl121_11
        have HR121_12 := a0_ hi121_12
        have HC121_12 := a0_ hl121_12
        clear hi121_12 hl121_12
        replace p121 := eq_true p121
        replace q121 := eq_true q121
        go_wp2_with (first | ((with_reducible refine gate_dst (N := 6) rfl ?_); refine box_event ?hg (N := 6) ?hd (cs := #[.string (⟨#[]⟩ : ByteArray), .bool false, .int .i64 0, .int .i64 0, .bool false, .int .i64 0, .int .i64 0, .int .i64 0, .string (⟨#[]⟩ : ByteArray), .bool false, .slice none 0 0, .slice none 0 0, .slice none 0 0]) (t := 30) ?hr ?_; (case hd => rfl); (case hg => rfl); (case hr => first | (go_simp; done) | (go_simp; rfl)); intro gb122 hg w14 hbox hb; have n0_ := a0_ (blk_below (g := gb119) (o := .cells #[.int .i64 a0_0, .int .i64 a0_1, .bool a0_2, .int .i64 a0_3, .int .i64 a0_4, .int .i64 a0_5, .string a0_6, .bool a0_7, .slice A0_8 l0_8.length c0_8, .slice (some ad121) l0_9.length c0_9] 28 (0, 0)) (by (with_reducible repeat (first | refine k1_ ?_ _ | refine k2_ ?_ | refine k3_ ?_ _)); exact BK119.out) hb); have n1_ := a0_ (below_step (by repeat (first | (with_reducible first | exact HB.out | apply b1_ | apply b2_ | apply b3_ | refine b4_ ?_ GE119.out) | exact HB.out)) hb); have n2_ := a0_ (hbox); have n3_ := a0_ ((by rw [hg]; exact (below_size (by repeat (first | (with_reducible first | exact HB.out | apply b1_ | apply b2_ | apply b3_ | refine b4_ ?_ GE119.out) | exact HB.out))) : w.heap.size ≤ gb122)); have n4_ := a0_ ((by rw [hg]; exact (below_size (by repeat (first | (with_reducible first | exact HB.out | apply b1_ | apply b2_ | apply b3_ | refine b4_ ?_ GE119.out) | exact HB.out))) : w.heap.size ≤ gb122)); have n5_ := a0_ ((by rw [hg]; exact Nat.ne_of_lt (blk_lt (g := gb119) (o := .cells #[.int .i64 a0_0, .int .i64 a0_1, .bool a0_2, .int .i64 a0_3, .int .i64 a0_4, .int .i64 a0_5, .string a0_6, .bool a0_7, .slice A0_8 l0_8.length c0_8, .slice (some ad121) l0_9.length c0_9] 28 (0, 0)) (by (with_reducible repeat (first | refine k1_ ?_ _ | refine k2_ ?_ | refine k3_ ?_ _)); exact BK119.out)) : gb119 ≠ gb122)); have n6_ := a0_ ((by rw [hg]; exact Nat.ne_of_gt (blk_lt (g := gb119) (o := .cells #[.int .i64 a0_0, .int .i64 a0_1, .bool a0_2, .int .i64 a0_3, .int .i64 a0_4, .int .i64 a0_5, .string a0_6, .bool a0_7, .slice A0_8 l0_8.length c0_8, .slice (some ad121) l0_9.length c0_9] 28 (0, 0)) (by (with_reducible repeat (first | refine k1_ ?_ _ | refine k2_ ?_ | refine k3_ ?_ _)); exact BK119.out)) : gb122 ≠ gb119)); clear BK119; clear HB; have BK119 := n0_; have HB := n1_; have BK122 := n2_; have GW122 := n3_; have GE122 := n4_; have NB119_122 := n5_; have NB122_119 := n6_; clear n0_ n1_ n2_ n3_ n4_ n5_ n6_; clear hb hbox hg; have hnb15 := NB122_119.out; have hnc15 := NB119_122.out; have hcz16_0 : w14.cell? ⟨gb122, 0, none⟩ = some (.string (⟨#[]⟩ : ByteArray)) := (blk_cell BK122.out 0).trans rfl; have hcz16_1 : w14.cell? ⟨gb122, 1, none⟩ = some (.bool false) := (blk_cell BK122.out 1).trans rfl; have hcz16_2 : w14.cell? ⟨gb122, 2, none⟩ = some (.int .i64 0) := (blk_cell BK122.out 2).trans rfl; have hcz16_3 : w14.cell? ⟨gb122, 3, none⟩ = some (.int .i64 0) := (blk_cell BK122.out 3).trans rfl; have hcz16_4 : w14.cell? ⟨gb122, 4, none⟩ = some (.bool false) := (blk_cell BK122.out 4).trans rfl; have hcz16_5 : w14.cell? ⟨gb122, 5, none⟩ = some (.int .i64 0) := (blk_cell BK122.out 5).trans rfl; have hcz16_6 : w14.cell? ⟨gb122, 6, none⟩ = some (.int .i64 0) := (blk_cell BK122.out 6).trans rfl; have hcz16_7 : w14.cell? ⟨gb122, 7, none⟩ = some (.int .i64 0) := (blk_cell BK122.out 7).trans rfl; have hcz16_8 : w14.cell? ⟨gb122, 8, none⟩ = some (.string (⟨#[]⟩ : ByteArray)) := (blk_cell BK122.out 8).trans rfl; have hcz16_9 : w14.cell? ⟨gb122, 9, none⟩ = some (.bool false) := (blk_cell BK122.out 9).trans rfl; have hcz16_10 : w14.cell? ⟨gb122, 10, none⟩ = some (.slice none 0 0) := (blk_cell BK122.out 10).trans rfl; have hcz16_11 : w14.cell? ⟨gb122, 11, none⟩ = some (.slice none 0 0) := (blk_cell BK122.out 11).trans rfl; have hcz16_12 : w14.cell? ⟨gb122, 12, none⟩ = some (.slice none 0 0) := (blk_cell BK122.out 12).trans rfl; have hfz16_0 := blk_frozen BK122.out 0; have hfz16_1 := blk_frozen BK122.out 1; have hfz16_2 := blk_frozen BK122.out 2; have hfz16_3 := blk_frozen BK122.out 3; have hfz16_4 := blk_frozen BK122.out 4; have hfz16_5 := blk_frozen BK122.out 5; have hfz16_6 := blk_frozen BK122.out 6; have hfz16_7 := blk_frozen BK122.out 7; have hfz16_8 := blk_frozen BK122.out 8; have hfz16_9 := blk_frozen BK122.out 9; have hfz16_10 := blk_frozen BK122.out 10; have hfz16_11 := blk_frozen BK122.out 11; have hfz16_12 := blk_frozen BK122.out 12) | ((with_reducible refine gate_callee (f := 60) rfl ?_); refine goesL_ (some 21) rfl rfl Tryz.func60 (by kernel_rfl) rfl #[.agg #[.int .i64 ((rd_T30 l0_9 x14_1).f2.f0), .int .i64 ((rd_T30 l0_9 x14_1).f2.f1), .bool ((rd_T30 l0_9 x14_1).f2.f2), .int .i64 ((rd_T30 l0_9 x14_1).f2.f3), .int .i64 ((rd_T30 l0_9 x14_1).f2.f4), .int .i64 ((rd_T30 l0_9 x14_1).f2.f5), .string ((rd_T30 l0_9 x14_1).f2.f6), .bool ((rd_T30 l0_9 x14_1).f2.f7), .slice A121_10 ((rd_T30 l0_9 x14_1).f2.f8).length c121_10, .slice A121_11 ((rd_T30 l0_9 x14_1).f2.f9).length c121_11], .slice A1 l1.length c1] rfl (by (try simp only [List.map_toArray, List.map_cons, List.map_nil]); first | done | rfl | (simp only [List.length_drop, List.length_take]; rfl)) ?_; (with_reducible refine (ih k1 (by have := HK1.out; omega) ((rd_T30 l0_9 x14_1).f2.f0) ((rd_T30 l0_9 x14_1).f2.f1) ((rd_T30 l0_9 x14_1).f2.f2) ((rd_T30 l0_9 x14_1).f2.f3) ((rd_T30 l0_9 x14_1).f2.f4) ((rd_T30 l0_9 x14_1).f2.f5) ((rd_T30 l0_9 x14_1).f2.f6) ((rd_T30 l0_9 x14_1).f2.f7) _ _ ((rd_T30 l0_9 x14_1).f2.f8) _ _ ((rd_T30 l0_9 x14_1).f2.f9) _ _ l1 true _ ?side1 ?side2 ?side3 ?side4 ?side5 ?side6 A12.out).mono ?_); (case side1 => exact Kd.C_below HR121_10.out (by repeat (first | (with_reducible first | exact HB.out | apply b1_ | apply b2_ | apply b3_ | refine b4_ ?_ GE119.out | refine b4_ ?_ GE122.out) | exact HB.out))); (case side2 => exact HC121_10.out); (case side3 => exact Kd.C_below HR121_11.out (by repeat (first | (with_reducible first | exact HB.out | apply b1_ | apply b2_ | apply b3_ | refine b4_ ?_ GE119.out | refine b4_ ?_ GE122.out) | exact HB.out))); (case side4 => exact HC121_11.out); (case side5 => exact Kd.C_below HR1.out (by repeat (first | (with_reducible first | exact HB.out | apply b1_ | apply b2_ | apply b3_ | refine b4_ ?_ GE119.out | refine b4_ ?_ GE122.out) | exact HB.out))); (case side6 => exact HC1.out); rintro e w17 ⟨rfl, hb⟩; refine ⟨_, rfl, ?_⟩; have n0_ := a0_ (blk_below (g := gb119) (o := .cells #[.int .i64 a0_0, .int .i64 a0_1, .bool a0_2, .int .i64 a0_3, .int .i64 a0_4, .int .i64 a0_5, .string a0_6, .bool a0_7, .slice A0_8 l0_8.length c0_8, .slice (some ad121) l0_9.length c0_9] 28 (0, 0)) (by (with_reducible repeat (first | refine k1_ ?_ _ | refine k2_ ?_ | refine k3_ ?_ _)); refine blk_far ?_ NB119_122.out _; (with_reducible repeat (first | refine k1_ ?_ _ | refine k2_ ?_ | refine k3_ ?_ _)); refine blk_far ?_ NB119_122.out _; (with_reducible repeat (first | refine k1_ ?_ _ | refine k2_ ?_ | refine k3_ ?_ _)); refine blk_far ?_ NB119_122.out _; (with_reducible repeat (first | refine k1_ ?_ _ | refine k2_ ?_ | refine k3_ ?_ _)); refine blk_far ?_ NB119_122.out _; (with_reducible repeat (first | refine k1_ ?_ _ | refine k2_ ?_ | refine k3_ ?_ _)); refine blk_far ?_ NB119_122.out _; (with_reducible repeat (first | refine k1_ ?_ _ | refine k2_ ?_ | refine k3_ ?_ _)); refine blk_far ?_ NB119_122.out _; (with_reducible repeat (first | refine k1_ ?_ _ | refine k2_ ?_ | refine k3_ ?_ _)); refine blk_far ?_ NB119_122.out _; (with_reducible repeat (first | refine k1_ ?_ _ | refine k2_ ?_ | refine k3_ ?_ _)); refine blk_far ?_ NB119_122.out _; (with_reducible repeat (first | refine k1_ ?_ _ | refine k2_ ?_ | refine k3_ ?_ _)); refine blk_far ?_ NB119_122.out _; (with_reducible repeat (first | refine k1_ ?_ _ | refine k2_ ?_ | refine k3_ ?_ _)); refine blk_far ?_ NB119_122.out _; (with_reducible repeat (first | refine k1_ ?_ _ | refine k2_ ?_ | refine k3_ ?_ _)); refine blk_far ?_ NB119_122.out _; (with_reducible repeat (first | refine k1_ ?_ _ | refine k2_ ?_ | refine k3_ ?_ _)); refine blk_far ?_ NB119_122.out _; (with_reducible repeat (first | refine k1_ ?_ _ | refine k2_ ?_ | refine k3_ ?_ _)); refine blk_far ?_ NB119_122.out _; (with_reducible repeat (first | refine k1_ ?_ _ | refine k2_ ?_ | refine k3_ ?_ _)); exact BK119.out) hb); have n1_ := a0_ (blk_below (g := gb122) (o := .cells #[.string ((rd_T30 l0_9 x14_1).f0), .bool ((rd_T30 l0_9 x14_1).f1), .int .i64 ((rd_T30 l0_9 x14_1).f2.f0), .int .i64 ((rd_T30 l0_9 x14_1).f2.f1), .bool ((rd_T30 l0_9 x14_1).f2.f2), .int .i64 ((rd_T30 l0_9 x14_1).f2.f3), .int .i64 ((rd_T30 l0_9 x14_1).f2.f4), .int .i64 ((rd_T30 l0_9 x14_1).f2.f5), .string ((rd_T30 l0_9 x14_1).f2.f6), .bool ((rd_T30 l0_9 x14_1).f2.f7), .slice A121_10 ((rd_T30 l0_9 x14_1).f2.f8).length c121_10, .slice A121_11 ((rd_T30 l0_9 x14_1).f2.f9).length c121_11, .slice A121_12 ((rd_T30 l0_9 x14_1).f3).length c121_12] 30 (0, 0)) (by (with_reducible repeat (first | refine k1_ ?_ _ | refine k2_ ?_ | refine k3_ ?_ _)); refine blk_put (cs := #[.string ((rd_T30 l0_9 x14_1).f0), .bool ((rd_T30 l0_9 x14_1).f1), .int .i64 ((rd_T30 l0_9 x14_1).f2.f0), .int .i64 ((rd_T30 l0_9 x14_1).f2.f1), .bool ((rd_T30 l0_9 x14_1).f2.f2), .int .i64 ((rd_T30 l0_9 x14_1).f2.f3), .int .i64 ((rd_T30 l0_9 x14_1).f2.f4), .int .i64 ((rd_T30 l0_9 x14_1).f2.f5), .string ((rd_T30 l0_9 x14_1).f2.f6), .bool ((rd_T30 l0_9 x14_1).f2.f7), .slice A121_10 ((rd_T30 l0_9 x14_1).f2.f8).length c121_10, .slice A121_11 ((rd_T30 l0_9 x14_1).f2.f9).length c121_11, .slice none 0 0]) ?_ 12 _ rfl; (with_reducible repeat (first | refine k1_ ?_ _ | refine k2_ ?_ | refine k3_ ?_ _)); refine blk_put (cs := #[.string ((rd_T30 l0_9 x14_1).f0), .bool ((rd_T30 l0_9 x14_1).f1), .int .i64 ((rd_T30 l0_9 x14_1).f2.f0), .int .i64 ((rd_T30 l0_9 x14_1).f2.f1), .bool ((rd_T30 l0_9 x14_1).f2.f2), .int .i64 ((rd_T30 l0_9 x14_1).f2.f3), .int .i64 ((rd_T30 l0_9 x14_1).f2.f4), .int .i64 ((rd_T30 l0_9 x14_1).f2.f5), .string ((rd_T30 l0_9 x14_1).f2.f6), .bool ((rd_T30 l0_9 x14_1).f2.f7), .slice A121_10 ((rd_T30 l0_9 x14_1).f2.f8).length c121_10, .slice none 0 0, .slice none 0 0]) ?_ 11 _ rfl; (with_reducible repeat (first | refine k1_ ?_ _ | refine k2_ ?_ | refine k3_ ?_ _)); refine blk_put (cs := #[.string ((rd_T30 l0_9 x14_1).f0), .bool ((rd_T30 l0_9 x14_1).f1), .int .i64 ((rd_T30 l0_9 x14_1).f2.f0), .int .i64 ((rd_T30 l0_9 x14_1).f2.f1), .bool ((rd_T30 l0_9 x14_1).f2.f2), .int .i64 ((rd_T30 l0_9 x14_1).f2.f3), .int .i64 ((rd_T30 l0_9 x14_1).f2.f4), .int .i64 ((rd_T30 l0_9 x14_1).f2.f5), .string ((rd_T30 l0_9 x14_1).f2.f6), .bool ((rd_T30 l0_9 x14_1).f2.f7), .slice none 0 0, .slice none 0 0, .slice none 0 0]) ?_ 10 _ rfl; (with_reducible repeat (first | refine k1_ ?_ _ | refine k2_ ?_ | refine k3_ ?_ _)); refine blk_put (cs := #[.string ((rd_T30 l0_9 x14_1).f0), .bool ((rd_T30 l0_9 x14_1).f1), .int .i64 ((rd_T30 l0_9 x14_1).f2.f0), .int .i64 ((rd_T30 l0_9 x14_1).f2.f1), .bool ((rd_T30 l0_9 x14_1).f2.f2), .int .i64 ((rd_T30 l0_9 x14_1).f2.f3), .int .i64 ((rd_T30 l0_9 x14_1).f2.f4), .int .i64 ((rd_T30 l0_9 x14_1).f2.f5), .string ((rd_T30 l0_9 x14_1).f2.f6), .bool false, .slice none 0 0, .slice none 0 0, .slice none 0 0]) ?_ 9 _ rfl; (with_reducible repeat (first | refine k1_ ?_ _ | refine k2_ ?_ | refine k3_ ?_ _)); refine blk_put (cs := #[.string ((rd_T30 l0_9 x14_1).f0), .bool ((rd_T30 l0_9 x14_1).f1), .int .i64 ((rd_T30 l0_9 x14_1).f2.f0), .int .i64 ((rd_T30 l0_9 x14_1).f2.f1), .bool ((rd_T30 l0_9 x14_1).f2.f2), .int .i64 ((rd_T30 l0_9 x14_1).f2.f3), .int .i64 ((rd_T30 l0_9 x14_1).f2.f4), .int .i64 ((rd_T30 l0_9 x14_1).f2.f5), .string (⟨#[]⟩ : ByteArray), .bool false, .slice none 0 0, .slice none 0 0, .slice none 0 0]) ?_ 8 _ rfl; (with_reducible repeat (first | refine k1_ ?_ _ | refine k2_ ?_ | refine k3_ ?_ _)); refine blk_put (cs := #[.string ((rd_T30 l0_9 x14_1).f0), .bool ((rd_T30 l0_9 x14_1).f1), .int .i64 ((rd_T30 l0_9 x14_1).f2.f0), .int .i64 ((rd_T30 l0_9 x14_1).f2.f1), .bool ((rd_T30 l0_9 x14_1).f2.f2), .int .i64 ((rd_T30 l0_9 x14_1).f2.f3), .int .i64 ((rd_T30 l0_9 x14_1).f2.f4), .int .i64 0, .string (⟨#[]⟩ : ByteArray), .bool false, .slice none 0 0, .slice none 0 0, .slice none 0 0]) ?_ 7 _ rfl; (with_reducible repeat (first | refine k1_ ?_ _ | refine k2_ ?_ | refine k3_ ?_ _)); refine blk_put (cs := #[.string ((rd_T30 l0_9 x14_1).f0), .bool ((rd_T30 l0_9 x14_1).f1), .int .i64 ((rd_T30 l0_9 x14_1).f2.f0), .int .i64 ((rd_T30 l0_9 x14_1).f2.f1), .bool ((rd_T30 l0_9 x14_1).f2.f2), .int .i64 ((rd_T30 l0_9 x14_1).f2.f3), .int .i64 0, .int .i64 0, .string (⟨#[]⟩ : ByteArray), .bool false, .slice none 0 0, .slice none 0 0, .slice none 0 0]) ?_ 6 _ rfl; (with_reducible repeat (first | refine k1_ ?_ _ | refine k2_ ?_ | refine k3_ ?_ _)); refine blk_put (cs := #[.string ((rd_T30 l0_9 x14_1).f0), .bool ((rd_T30 l0_9 x14_1).f1), .int .i64 ((rd_T30 l0_9 x14_1).f2.f0), .int .i64 ((rd_T30 l0_9 x14_1).f2.f1), .bool ((rd_T30 l0_9 x14_1).f2.f2), .int .i64 0, .int .i64 0, .int .i64 0, .string (⟨#[]⟩ : ByteArray), .bool false, .slice none 0 0, .slice none 0 0, .slice none 0 0]) ?_ 5 _ rfl; (with_reducible repeat (first | refine k1_ ?_ _ | refine k2_ ?_ | refine k3_ ?_ _)); refine blk_put (cs := #[.string ((rd_T30 l0_9 x14_1).f0), .bool ((rd_T30 l0_9 x14_1).f1), .int .i64 ((rd_T30 l0_9 x14_1).f2.f0), .int .i64 ((rd_T30 l0_9 x14_1).f2.f1), .bool false, .int .i64 0, .int .i64 0, .int .i64 0, .string (⟨#[]⟩ : ByteArray), .bool false, .slice none 0 0, .slice none 0 0, .slice none 0 0]) ?_ 4 _ rfl; (with_reducible repeat (first | refine k1_ ?_ _ | refine k2_ ?_ | refine k3_ ?_ _)); refine blk_put (cs := #[.string ((rd_T30 l0_9 x14_1).f0), .bool ((rd_T30 l0_9 x14_1).f1), .int .i64 ((rd_T30 l0_9 x14_1).f2.f0), .int .i64 0, .bool false, .int .i64 0, .int .i64 0, .int .i64 0, .string (⟨#[]⟩ : ByteArray), .bool false, .slice none 0 0, .slice none 0 0, .slice none 0 0]) ?_ 3 _ rfl; (with_reducible repeat (first | refine k1_ ?_ _ | refine k2_ ?_ | refine k3_ ?_ _)); refine blk_put (cs := #[.string ((rd_T30 l0_9 x14_1).f0), .bool ((rd_T30 l0_9 x14_1).f1), .int .i64 0, .int .i64 0, .bool false, .int .i64 0, .int .i64 0, .int .i64 0, .string (⟨#[]⟩ : ByteArray), .bool false, .slice none 0 0, .slice none 0 0, .slice none 0 0]) ?_ 2 _ rfl; (with_reducible repeat (first | refine k1_ ?_ _ | refine k2_ ?_ | refine k3_ ?_ _)); refine blk_put (cs := #[.string ((rd_T30 l0_9 x14_1).f0), .bool false, .int .i64 0, .int .i64 0, .bool false, .int .i64 0, .int .i64 0, .int .i64 0, .string (⟨#[]⟩ : ByteArray), .bool false, .slice none 0 0, .slice none 0 0, .slice none 0 0]) ?_ 1 _ rfl; (with_reducible repeat (first | refine k1_ ?_ _ | refine k2_ ?_ | refine k3_ ?_ _)); refine blk_put (cs := #[.string (⟨#[]⟩ : ByteArray), .bool false, .int .i64 0, .int .i64 0, .bool false, .int .i64 0, .int .i64 0, .int .i64 0, .string (⟨#[]⟩ : ByteArray), .bool false, .slice none 0 0, .slice none 0 0, .slice none 0 0]) ?_ 0 _ rfl; (with_reducible repeat (first | refine k1_ ?_ _ | refine k2_ ?_ | refine k3_ ?_ _)); exact BK122.out) hb); have n2_ := a0_ (below_step (by repeat (first | (with_reducible first | exact HB.out | apply b1_ | apply b2_ | apply b3_ | refine b4_ ?_ GE119.out | refine b4_ ?_ GE122.out) | exact HB.out)) hb); clear BK119; clear BK122; clear HB; have BK119 := n0_; have BK122 := n1_; have HB := n2_; clear n0_ n1_ n2_; (try clear hb); (try clear hb2); (try clear hk); (try clear hi)))
        go_ret
        exact ⟨by first | rfl | (simp [e1_, e2_] <;> rfl) | (simp [*, e1_, e2_] <;> rfl), by repeat (first | (with_reducible first | exact HB.out | apply b1_ | apply b2_ | apply b3_ | refine b4_ ?_ GE119.out | refine b4_ ?_ GE122.out) | exact HB.out)⟩
       ·
        replace c13 := Bool.eq_false_iff.mpr c13
        subst c13
        have H1 : (spec_HasKind.l0 k1 l1 l0_9 (l0_9.length : Int) (wrap64 (x14_1 + 1))) = some r := by rw [if_neg (show ¬ (false = true) by decide)] at H; exact H
        clear H
        have H := H1
        clear H1
        have H' := a0_ H
        clear H
        have p121 : 0 ≤ (x14_1 : Int) := d1_ (by first | (with_reducible assumption) | assumption)
        have q121 : x14_1 < (l0_9.length : Int) := d1_ (by first | (with_reducible assumption) | assumption)
        obtain ⟨ad121, A121_10, c121_10, A121_11, c121_11, A121_12, c121_12, e121, hx121_0, hx121_1, hx121_2, hx121_3, hx121_4, hx121_5, hx121_6, hx121_7, hx121_8, hx121_9, hx121_10, hx121_11, hx121_12, hl121_10, hi121_10, hl121_11, hi121_11, hl121_12, hi121_12⟩ := at_T30 HR0_9.out x14_1 p121 q121
        cases e121
        replace hx121_0 := (HB.out.cell (World.block_lt_of_cell? w _ hx121_0)).trans hx121_0
        replace hx121_1 := (HB.out.cell (World.block_lt_of_cell? w _ hx121_1)).trans hx121_1
        replace hx121_2 := (HB.out.cell (World.block_lt_of_cell? w _ hx121_2)).trans hx121_2
        replace hx121_3 := (HB.out.cell (World.block_lt_of_cell? w _ hx121_3)).trans hx121_3
        replace hx121_4 := (HB.out.cell (World.block_lt_of_cell? w _ hx121_4)).trans hx121_4
        replace hx121_5 := (HB.out.cell (World.block_lt_of_cell? w _ hx121_5)).trans hx121_5
        replace hx121_6 := (HB.out.cell (World.block_lt_of_cell? w _ hx121_6)).trans hx121_6
        replace hx121_7 := (HB.out.cell (World.block_lt_of_cell? w _ hx121_7)).trans hx121_7
        replace hx121_8 := (HB.out.cell (World.block_lt_of_cell? w _ hx121_8)).trans hx121_8
        replace hx121_9 := (HB.out.cell (World.block_lt_of_cell? w _ hx121_9)).trans hx121_9
        replace hx121_10 := (HB.out.cell (World.block_lt_of_cell? w _ hx121_10)).trans hx121_10
        replace hx121_11 := (HB.out.cell (World.block_lt_of_cell? w _ hx121_11)).trans hx121_11
        replace hx121_12 := (HB.out.cell (World.block_lt_of_cell? w _ hx121_12)).trans hx121_12
        have HR121_10 := a0_ hi121_10
        have HC121_10 := a0_ hl121_10
        clear hi121_10 hl121_10
        have HR121_11 := a0_ hi121_11
        have HC121_11 := a0_ hl121_11
        clear hi121_11 hl121_11
        have HR121_12 := a0_ hi121_12
        have HC121_12 := a0_ hl121_12
        clear hi121_12 hl121_12
        replace p121 := eq_true p121
        replace q121 := eq_true q121
        go_wp2_with (first | ((with_reducible refine gate_dst (N := 6) rfl ?_); refine box_event ?hg (N := 6) ?hd (cs := #[.string (⟨#[]⟩ : ByteArray), .bool false, .int .i64 0, .int .i64 0, .bool false, .int .i64 0, .int .i64 0, .int .i64 0, .string (⟨#[]⟩ : ByteArray), .bool false, .slice none 0 0, .slice none 0 0, .slice none 0 0]) (t := 30) ?hr ?_; (case hd => rfl); (case hg => rfl); (case hr => first | (go_simp; done) | (go_simp; rfl)); intro gb122 hg w18 hbox hb; have n0_ := a0_ (blk_below (g := gb119) (o := .cells #[.int .i64 a0_0, .int .i64 a0_1, .bool a0_2, .int .i64 a0_3, .int .i64 a0_4, .int .i64 a0_5, .string a0_6, .bool a0_7, .slice A0_8 l0_8.length c0_8, .slice (some ad121) l0_9.length c0_9] 28 (0, 0)) (by (with_reducible repeat (first | refine k1_ ?_ _ | refine k2_ ?_ | refine k3_ ?_ _)); exact BK119.out) hb); have n1_ := a0_ (below_step (by repeat (first | (with_reducible first | exact HB.out | apply b1_ | apply b2_ | apply b3_ | refine b4_ ?_ GE119.out) | exact HB.out)) hb); have n2_ := a0_ (hbox); have n3_ := a0_ ((by rw [hg]; exact (below_size (by repeat (first | (with_reducible first | exact HB.out | apply b1_ | apply b2_ | apply b3_ | refine b4_ ?_ GE119.out) | exact HB.out))) : w.heap.size ≤ gb122)); have n4_ := a0_ ((by rw [hg]; exact (below_size (by repeat (first | (with_reducible first | exact HB.out | apply b1_ | apply b2_ | apply b3_ | refine b4_ ?_ GE119.out) | exact HB.out))) : w.heap.size ≤ gb122)); have n5_ := a0_ ((by rw [hg]; exact Nat.ne_of_lt (blk_lt (g := gb119) (o := .cells #[.int .i64 a0_0, .int .i64 a0_1, .bool a0_2, .int .i64 a0_3, .int .i64 a0_4, .int .i64 a0_5, .string a0_6, .bool a0_7, .slice A0_8 l0_8.length c0_8, .slice (some ad121) l0_9.length c0_9] 28 (0, 0)) (by (with_reducible repeat (first | refine k1_ ?_ _ | refine k2_ ?_ | refine k3_ ?_ _)); exact BK119.out)) : gb119 ≠ gb122)); have n6_ := a0_ ((by rw [hg]; exact Nat.ne_of_gt (blk_lt (g := gb119) (o := .cells #[.int .i64 a0_0, .int .i64 a0_1, .bool a0_2, .int .i64 a0_3, .int .i64 a0_4, .int .i64 a0_5, .string a0_6, .bool a0_7, .slice A0_8 l0_8.length c0_8, .slice (some ad121) l0_9.length c0_9] 28 (0, 0)) (by (with_reducible repeat (first | refine k1_ ?_ _ | refine k2_ ?_ | refine k3_ ?_ _)); exact BK119.out)) : gb122 ≠ gb119)); clear BK119; clear HB; have BK119 := n0_; have HB := n1_; have BK122 := n2_; have GW122 := n3_; have GE122 := n4_; have NB119_122 := n5_; have NB122_119 := n6_; clear n0_ n1_ n2_ n3_ n4_ n5_ n6_; clear hb hbox hg; have hnb19 := NB122_119.out; have hnc19 := NB119_122.out; have hcz20_0 : w18.cell? ⟨gb122, 0, none⟩ = some (.string (⟨#[]⟩ : ByteArray)) := (blk_cell BK122.out 0).trans rfl; have hcz20_1 : w18.cell? ⟨gb122, 1, none⟩ = some (.bool false) := (blk_cell BK122.out 1).trans rfl; have hcz20_2 : w18.cell? ⟨gb122, 2, none⟩ = some (.int .i64 0) := (blk_cell BK122.out 2).trans rfl; have hcz20_3 : w18.cell? ⟨gb122, 3, none⟩ = some (.int .i64 0) := (blk_cell BK122.out 3).trans rfl; have hcz20_4 : w18.cell? ⟨gb122, 4, none⟩ = some (.bool false) := (blk_cell BK122.out 4).trans rfl; have hcz20_5 : w18.cell? ⟨gb122, 5, none⟩ = some (.int .i64 0) := (blk_cell BK122.out 5).trans rfl; have hcz20_6 : w18.cell? ⟨gb122, 6, none⟩ = some (.int .i64 0) := (blk_cell BK122.out 6).trans rfl; have hcz20_7 : w18.cell? ⟨gb122, 7, none⟩ = some (.int .i64 0) := (blk_cell BK122.out 7).trans rfl; have hcz20_8 : w18.cell? ⟨gb122, 8, none⟩ = some (.string (⟨#[]⟩ : ByteArray)) := (blk_cell BK122.out 8).trans rfl; have hcz20_9 : w18.cell? ⟨gb122, 9, none⟩ = some (.bool false) := (blk_cell BK122.out 9).trans rfl; have hcz20_10 : w18.cell? ⟨gb122, 10, none⟩ = some (.slice none 0 0) := (blk_cell BK122.out 10).trans rfl; have hcz20_11 : w18.cell? ⟨gb122, 11, none⟩ = some (.slice none 0 0) := (blk_cell BK122.out 11).trans rfl; have hcz20_12 : w18.cell? ⟨gb122, 12, none⟩ = some (.slice none 0 0) := (blk_cell BK122.out 12).trans rfl; have hfz20_0 := blk_frozen BK122.out 0; have hfz20_1 := blk_frozen BK122.out 1; have hfz20_2 := blk_frozen BK122.out 2; have hfz20_3 := blk_frozen BK122.out 3; have hfz20_4 := blk_frozen BK122.out 4; have hfz20_5 := blk_frozen BK122.out 5; have hfz20_6 := blk_frozen BK122.out 6; have hfz20_7 := blk_frozen BK122.out 7; have hfz20_8 := blk_frozen BK122.out 8; have hfz20_9 := blk_frozen BK122.out 9; have hfz20_10 := blk_frozen BK122.out 10; have hfz20_11 := blk_frozen BK122.out 11; have hfz20_12 := blk_frozen BK122.out 12) | ((with_reducible refine gate_callee (f := 60) rfl ?_); refine goesL_ (some 21) rfl rfl Tryz.func60 (by kernel_rfl) rfl #[.agg #[.int .i64 ((rd_T30 l0_9 x14_1).f2.f0), .int .i64 ((rd_T30 l0_9 x14_1).f2.f1), .bool ((rd_T30 l0_9 x14_1).f2.f2), .int .i64 ((rd_T30 l0_9 x14_1).f2.f3), .int .i64 ((rd_T30 l0_9 x14_1).f2.f4), .int .i64 ((rd_T30 l0_9 x14_1).f2.f5), .string ((rd_T30 l0_9 x14_1).f2.f6), .bool ((rd_T30 l0_9 x14_1).f2.f7), .slice A121_10 ((rd_T30 l0_9 x14_1).f2.f8).length c121_10, .slice A121_11 ((rd_T30 l0_9 x14_1).f2.f9).length c121_11], .slice A1 l1.length c1] rfl (by (try simp only [List.map_toArray, List.map_cons, List.map_nil]); first | done | rfl | (simp only [List.length_drop, List.length_take]; rfl)) ?_; (with_reducible refine (ih k1 (by have := HK1.out; omega) ((rd_T30 l0_9 x14_1).f2.f0) ((rd_T30 l0_9 x14_1).f2.f1) ((rd_T30 l0_9 x14_1).f2.f2) ((rd_T30 l0_9 x14_1).f2.f3) ((rd_T30 l0_9 x14_1).f2.f4) ((rd_T30 l0_9 x14_1).f2.f5) ((rd_T30 l0_9 x14_1).f2.f6) ((rd_T30 l0_9 x14_1).f2.f7) _ _ ((rd_T30 l0_9 x14_1).f2.f8) _ _ ((rd_T30 l0_9 x14_1).f2.f9) _ _ l1 false _ ?side1 ?side2 ?side3 ?side4 ?side5 ?side6 A12.out).mono ?_); (case side1 => exact Kd.C_below HR121_10.out (by repeat (first | (with_reducible first | exact HB.out | apply b1_ | apply b2_ | apply b3_ | refine b4_ ?_ GE119.out | refine b4_ ?_ GE122.out) | exact HB.out))); (case side2 => exact HC121_10.out); (case side3 => exact Kd.C_below HR121_11.out (by repeat (first | (with_reducible first | exact HB.out | apply b1_ | apply b2_ | apply b3_ | refine b4_ ?_ GE119.out | refine b4_ ?_ GE122.out) | exact HB.out))); (case side4 => exact HC121_11.out); (case side5 => exact Kd.C_below HR1.out (by repeat (first | (with_reducible first | exact HB.out | apply b1_ | apply b2_ | apply b3_ | refine b4_ ?_ GE119.out | refine b4_ ?_ GE122.out) | exact HB.out))); (case side6 => exact HC1.out); rintro e w21 ⟨rfl, hb⟩; refine ⟨_, rfl, ?_⟩; have n0_ := a0_ (blk_below (g := gb119) (o := .cells #[.int .i64 a0_0, .int .i64 a0_1, .bool a0_2, .int .i64 a0_3, .int .i64 a0_4, .int .i64 a0_5, .string a0_6, .bool a0_7, .slice A0_8 l0_8.length c0_8, .slice (some ad121) l0_9.length c0_9] 28 (0, 0)) (by (with_reducible repeat (first | refine k1_ ?_ _ | refine k2_ ?_ | refine k3_ ?_ _)); refine blk_far ?_ NB119_122.out _; (with_reducible repeat (first | refine k1_ ?_ _ | refine k2_ ?_ | refine k3_ ?_ _)); refine blk_far ?_ NB119_122.out _; (with_reducible repeat (first | refine k1_ ?_ _ | refine k2_ ?_ | refine k3_ ?_ _)); refine blk_far ?_ NB119_122.out _; (with_reducible repeat (first | refine k1_ ?_ _ | refine k2_ ?_ | refine k3_ ?_ _)); refine blk_far ?_ NB119_122.out _; (with_reducible repeat (first | refine k1_ ?_ _ | refine k2_ ?_ | refine k3_ ?_ _)); refine blk_far ?_ NB119_122.out _; (with_reducible repeat (first | refine k1_ ?_ _ | refine k2_ ?_ | refine k3_ ?_ _)); refine blk_far ?_ NB119_122.out _; (with_reducible repeat (first | refine k1_ ?_ _ | refine k2_ ?_ | refine k3_ ?_ _)); refine blk_far ?_ NB119_122.out _; (with_reducible repeat (first | refine k1_ ?_ _ | refine k2_ ?_ | refine k3_ ?_ _)); refine blk_far ?_ NB119_122.out _; (with_reducible repeat (first | refine k1_ ?_ _ | refine k2_ ?_ | refine k3_ ?_ _)); refine blk_far ?_ NB119_122.out _; (with_reducible repeat (first | refine k1_ ?_ _ | refine k2_ ?_ | refine k3_ ?_ _)); refine blk_far ?_ NB119_122.out _; (with_reducible repeat (first | refine k1_ ?_ _ | refine k2_ ?_ | refine k3_ ?_ _)); refine blk_far ?_ NB119_122.out _; (with_reducible repeat (first | refine k1_ ?_ _ | refine k2_ ?_ | refine k3_ ?_ _)); refine blk_far ?_ NB119_122.out _; (with_reducible repeat (first | refine k1_ ?_ _ | refine k2_ ?_ | refine k3_ ?_ _)); refine blk_far ?_ NB119_122.out _; (with_reducible repeat (first | refine k1_ ?_ _ | refine k2_ ?_ | refine k3_ ?_ _)); exact BK119.out) hb); have n1_ := a0_ (blk_below (g := gb122) (o := .cells #[.string ((rd_T30 l0_9 x14_1).f0), .bool ((rd_T30 l0_9 x14_1).f1), .int .i64 ((rd_T30 l0_9 x14_1).f2.f0), .int .i64 ((rd_T30 l0_9 x14_1).f2.f1), .bool ((rd_T30 l0_9 x14_1).f2.f2), .int .i64 ((rd_T30 l0_9 x14_1).f2.f3), .int .i64 ((rd_T30 l0_9 x14_1).f2.f4), .int .i64 ((rd_T30 l0_9 x14_1).f2.f5), .string ((rd_T30 l0_9 x14_1).f2.f6), .bool ((rd_T30 l0_9 x14_1).f2.f7), .slice A121_10 ((rd_T30 l0_9 x14_1).f2.f8).length c121_10, .slice A121_11 ((rd_T30 l0_9 x14_1).f2.f9).length c121_11, .slice A121_12 ((rd_T30 l0_9 x14_1).f3).length c121_12] 30 (0, 0)) (by (with_reducible repeat (first | refine k1_ ?_ _ | refine k2_ ?_ | refine k3_ ?_ _)); refine blk_put (cs := #[.string ((rd_T30 l0_9 x14_1).f0), .bool ((rd_T30 l0_9 x14_1).f1), .int .i64 ((rd_T30 l0_9 x14_1).f2.f0), .int .i64 ((rd_T30 l0_9 x14_1).f2.f1), .bool ((rd_T30 l0_9 x14_1).f2.f2), .int .i64 ((rd_T30 l0_9 x14_1).f2.f3), .int .i64 ((rd_T30 l0_9 x14_1).f2.f4), .int .i64 ((rd_T30 l0_9 x14_1).f2.f5), .string ((rd_T30 l0_9 x14_1).f2.f6), .bool ((rd_T30 l0_9 x14_1).f2.f7), .slice A121_10 ((rd_T30 l0_9 x14_1).f2.f8).length c121_10, .slice A121_11 ((rd_T30 l0_9 x14_1).f2.f9).length c121_11, .slice none 0 0]) ?_ 12 _ rfl; (with_reducible repeat (first | refine k1_ ?_ _ | refine k2_ ?_ | refine k3_ ?_ _)); refine blk_put (cs := #[.string ((rd_T30 l0_9 x14_1).f0), .bool ((rd_T30 l0_9 x14_1).f1), .int .i64 ((rd_T30 l0_9 x14_1).f2.f0), .int .i64 ((rd_T30 l0_9 x14_1).f2.f1), .bool ((rd_T30 l0_9 x14_1).f2.f2), .int .i64 ((rd_T30 l0_9 x14_1).f2.f3), .int .i64 ((rd_T30 l0_9 x14_1).f2.f4), .int .i64 ((rd_T30 l0_9 x14_1).f2.f5), .string ((rd_T30 l0_9 x14_1).f2.f6), .bool ((rd_T30 l0_9 x14_1).f2.f7), .slice A121_10 ((rd_T30 l0_9 x14_1).f2.f8).length c121_10, .slice none 0 0, .slice none 0 0]) ?_ 11 _ rfl; (with_reducible repeat (first | refine k1_ ?_ _ | refine k2_ ?_ | refine k3_ ?_ _)); refine blk_put (cs := #[.string ((rd_T30 l0_9 x14_1).f0), .bool ((rd_T30 l0_9 x14_1).f1), .int .i64 ((rd_T30 l0_9 x14_1).f2.f0), .int .i64 ((rd_T30 l0_9 x14_1).f2.f1), .bool ((rd_T30 l0_9 x14_1).f2.f2), .int .i64 ((rd_T30 l0_9 x14_1).f2.f3), .int .i64 ((rd_T30 l0_9 x14_1).f2.f4), .int .i64 ((rd_T30 l0_9 x14_1).f2.f5), .string ((rd_T30 l0_9 x14_1).f2.f6), .bool ((rd_T30 l0_9 x14_1).f2.f7), .slice none 0 0, .slice none 0 0, .slice none 0 0]) ?_ 10 _ rfl; (with_reducible repeat (first | refine k1_ ?_ _ | refine k2_ ?_ | refine k3_ ?_ _)); refine blk_put (cs := #[.string ((rd_T30 l0_9 x14_1).f0), .bool ((rd_T30 l0_9 x14_1).f1), .int .i64 ((rd_T30 l0_9 x14_1).f2.f0), .int .i64 ((rd_T30 l0_9 x14_1).f2.f1), .bool ((rd_T30 l0_9 x14_1).f2.f2), .int .i64 ((rd_T30 l0_9 x14_1).f2.f3), .int .i64 ((rd_T30 l0_9 x14_1).f2.f4), .int .i64 ((rd_T30 l0_9 x14_1).f2.f5), .string ((rd_T30 l0_9 x14_1).f2.f6), .bool false, .slice none 0 0, .slice none 0 0, .slice none 0 0]) ?_ 9 _ rfl; (with_reducible repeat (first | refine k1_ ?_ _ | refine k2_ ?_ | refine k3_ ?_ _)); refine blk_put (cs := #[.string ((rd_T30 l0_9 x14_1).f0), .bool ((rd_T30 l0_9 x14_1).f1), .int .i64 ((rd_T30 l0_9 x14_1).f2.f0), .int .i64 ((rd_T30 l0_9 x14_1).f2.f1), .bool ((rd_T30 l0_9 x14_1).f2.f2), .int .i64 ((rd_T30 l0_9 x14_1).f2.f3), .int .i64 ((rd_T30 l0_9 x14_1).f2.f4), .int .i64 ((rd_T30 l0_9 x14_1).f2.f5), .string (⟨#[]⟩ : ByteArray), .bool false, .slice none 0 0, .slice none 0 0, .slice none 0 0]) ?_ 8 _ rfl; (with_reducible repeat (first | refine k1_ ?_ _ | refine k2_ ?_ | refine k3_ ?_ _)); refine blk_put (cs := #[.string ((rd_T30 l0_9 x14_1).f0), .bool ((rd_T30 l0_9 x14_1).f1), .int .i64 ((rd_T30 l0_9 x14_1).f2.f0), .int .i64 ((rd_T30 l0_9 x14_1).f2.f1), .bool ((rd_T30 l0_9 x14_1).f2.f2), .int .i64 ((rd_T30 l0_9 x14_1).f2.f3), .int .i64 ((rd_T30 l0_9 x14_1).f2.f4), .int .i64 0, .string (⟨#[]⟩ : ByteArray), .bool false, .slice none 0 0, .slice none 0 0, .slice none 0 0]) ?_ 7 _ rfl; (with_reducible repeat (first | refine k1_ ?_ _ | refine k2_ ?_ | refine k3_ ?_ _)); refine blk_put (cs := #[.string ((rd_T30 l0_9 x14_1).f0), .bool ((rd_T30 l0_9 x14_1).f1), .int .i64 ((rd_T30 l0_9 x14_1).f2.f0), .int .i64 ((rd_T30 l0_9 x14_1).f2.f1), .bool ((rd_T30 l0_9 x14_1).f2.f2), .int .i64 ((rd_T30 l0_9 x14_1).f2.f3), .int .i64 0, .int .i64 0, .string (⟨#[]⟩ : ByteArray), .bool false, .slice none 0 0, .slice none 0 0, .slice none 0 0]) ?_ 6 _ rfl; (with_reducible repeat (first | refine k1_ ?_ _ | refine k2_ ?_ | refine k3_ ?_ _)); refine blk_put (cs := #[.string ((rd_T30 l0_9 x14_1).f0), .bool ((rd_T30 l0_9 x14_1).f1), .int .i64 ((rd_T30 l0_9 x14_1).f2.f0), .int .i64 ((rd_T30 l0_9 x14_1).f2.f1), .bool ((rd_T30 l0_9 x14_1).f2.f2), .int .i64 0, .int .i64 0, .int .i64 0, .string (⟨#[]⟩ : ByteArray), .bool false, .slice none 0 0, .slice none 0 0, .slice none 0 0]) ?_ 5 _ rfl; (with_reducible repeat (first | refine k1_ ?_ _ | refine k2_ ?_ | refine k3_ ?_ _)); refine blk_put (cs := #[.string ((rd_T30 l0_9 x14_1).f0), .bool ((rd_T30 l0_9 x14_1).f1), .int .i64 ((rd_T30 l0_9 x14_1).f2.f0), .int .i64 ((rd_T30 l0_9 x14_1).f2.f1), .bool false, .int .i64 0, .int .i64 0, .int .i64 0, .string (⟨#[]⟩ : ByteArray), .bool false, .slice none 0 0, .slice none 0 0, .slice none 0 0]) ?_ 4 _ rfl; (with_reducible repeat (first | refine k1_ ?_ _ | refine k2_ ?_ | refine k3_ ?_ _)); refine blk_put (cs := #[.string ((rd_T30 l0_9 x14_1).f0), .bool ((rd_T30 l0_9 x14_1).f1), .int .i64 ((rd_T30 l0_9 x14_1).f2.f0), .int .i64 0, .bool false, .int .i64 0, .int .i64 0, .int .i64 0, .string (⟨#[]⟩ : ByteArray), .bool false, .slice none 0 0, .slice none 0 0, .slice none 0 0]) ?_ 3 _ rfl; (with_reducible repeat (first | refine k1_ ?_ _ | refine k2_ ?_ | refine k3_ ?_ _)); refine blk_put (cs := #[.string ((rd_T30 l0_9 x14_1).f0), .bool ((rd_T30 l0_9 x14_1).f1), .int .i64 0, .int .i64 0, .bool false, .int .i64 0, .int .i64 0, .int .i64 0, .string (⟨#[]⟩ : ByteArray), .bool false, .slice none 0 0, .slice none 0 0, .slice none 0 0]) ?_ 2 _ rfl; (with_reducible repeat (first | refine k1_ ?_ _ | refine k2_ ?_ | refine k3_ ?_ _)); refine blk_put (cs := #[.string ((rd_T30 l0_9 x14_1).f0), .bool false, .int .i64 0, .int .i64 0, .bool false, .int .i64 0, .int .i64 0, .int .i64 0, .string (⟨#[]⟩ : ByteArray), .bool false, .slice none 0 0, .slice none 0 0, .slice none 0 0]) ?_ 1 _ rfl; (with_reducible repeat (first | refine k1_ ?_ _ | refine k2_ ?_ | refine k3_ ?_ _)); refine blk_put (cs := #[.string (⟨#[]⟩ : ByteArray), .bool false, .int .i64 0, .int .i64 0, .bool false, .int .i64 0, .int .i64 0, .int .i64 0, .string (⟨#[]⟩ : ByteArray), .bool false, .slice none 0 0, .slice none 0 0, .slice none 0 0]) ?_ 0 _ rfl; (with_reducible repeat (first | refine k1_ ?_ _ | refine k2_ ?_ | refine k3_ ?_ _)); exact BK122.out) hb); have n2_ := a0_ (below_step (by repeat (first | (with_reducible first | exact HB.out | apply b1_ | apply b2_ | apply b3_ | refine b4_ ?_ GE119.out | refine b4_ ?_ GE122.out) | exact HB.out)) hb); clear BK119; clear BK122; clear HB; have BK119 := n0_; have BK122 := n1_; have HB := n2_; clear n0_ n1_ n2_; (try clear hb); (try clear hb2); (try clear hk); (try clear hi)))
        go_roundg k1
        case measure => have := HK1.out; omega
        case rel => exact ⟨(wrap64 (x14_1 + 1)), (by first | rfl | (simp; done) | (simp [*]; done)), H', ⟨by have := HK1.out; omega⟩, ⟨by (with_reducible repeat (first | refine k1_ ?_ _ | refine k2_ ?_ | refine k3_ ?_ _)); exact BK119.out⟩, ⟨by repeat (first | (with_reducible first | exact HB.out | apply b1_ | apply b2_ | apply b3_ | refine b4_ ?_ GE119.out | refine b4_ ?_ GE122.out) | exact HB.out)⟩⟩
      ·
       rw [if_neg c11] at H
       exact absurd H (by simp)
     ·
      rw [if_neg c10] at H
      exact absurd H (by simp)
    ·
     rw [if_neg c9] at H
     have c9b0 : decide (x14_1 < (l0_9.length : Int)) = false := d3_ c9
     clear c9
     obtain rfl := o1_ H
     go_wp2
     go_ret
     exact ⟨by first | rfl | (simp [e1_, e2_] <;> rfl) | (simp [*, e1_, e2_] <;> rfl), by repeat (first | (with_reducible first | exact HB.out | apply b1_ | apply b2_ | apply b3_ | refine b4_ ?_ GE119.out) | exact HB.out)⟩
end Go.Proofs.YteebgnhhjlgnjaaGreatDoor.V
