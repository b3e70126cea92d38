/- . -/
import Derived.Test.YteebgnhhjlgnjaaGreatDoorFV1
namespace Go.Proofs.YteebgnhhjlgnjaaGreatDoor.V
open Go.RowKit Go.Proofs.YteebgnhhjlgnjaaGreatDoorW.PrintWords Go.Proofs.YteebgnhhjlgnjaaGreatDoorW.PrintLast Go.Proofs.YteebgnhhjlgnjaaGreatDoorW.PrintMore
attribute [local go_sem] max2_int min2_int max_two min_two max_three min_three max_four min_four
set_option maxHeartbeats 40000000
set_option maxRecDepth 100000
set_option linter.unusedVariables false
set_option linter.unusedSimpArgs false
theorem in_take (k : Nat) (x : Int) (A : Option Addr) (c : Nat) (l : List Int) (i : Int) (r : Bool) (w : World) (hr : Kd.C (Kd.int .i64) w A (l.take i.toNat).length (l.take i.toNat)) (hc : (l.take i.toNat).length ≤ c) (h : spec_in.f k x (l.take i.toNat) = some r) (hi : i.toNat ≤ l.length) :
 Calls Tryz.prog 56 #[.int .i64 x, .slice A i.toNat c] w fun e w' => e = .returned (.bool r) ∧ Drawn0 w w' := by
 have h1 := spec_in.calls k x A c _ r w hr hc h
 rw [List.length_take, Nat.min_eq_left hi] at h1
 exact h1
def spec_idsRight.l0 : Nat → List Int → Int → Int → Int → Int → Bool → Int → Int → Int → ByteArray → Bool → List Int → List (S30) → Option (Bool)
 | 0, _, _, _, _, _, _, _, _, _, _, _, _, _ => none
 | k + 1, x6, x7, x8, x116000, x116001, x116002, x116003, x116004, x116005, x116006, x116007, x116008, x116009 => if x8 < x7 then (if 0 ≤ x8 then (if x8 < (x6.length : Int) then (if (rd x6 x8) < 0 then (some false) else (if (rd x6 x8) > 126 then (some false) else (if x8 ≤ (x116008.length : Int) then ((spec_in.f k (rd x6 x8) (x116008.take (x8 : Int).toNat)).bind fun t118 => (if t118 = true then (some false) else (spec_idsRight.l0 k x6 x7 (wrap64 (x8 + 1)) x116000 x116001 x116002 x116003 x116004 x116005 x116006 x116007 x116008 x116009))) else (none)))) else (none)) else (none)) else (some ((x116008.length : Int) == (x116009.length : Int)))
def spec_idsRight.f (k : Nat) (a0_0 : Int) (a0_1 : Int) (a0_2 : Bool) (a0_3 : Int) (a0_4 : Int) (a0_5 : Int) (a0_6 : ByteArray) (a0_7 : Bool) (l0_8 : List Int) (l0_9 : List (S30)) : Option (Bool) := spec_idsRight.l0 k l0_8 (l0_8.length : Int) 0 a0_0 a0_1 a0_2 a0_3 a0_4 a0_5 a0_6 a0_7 l0_8 l0_9
theorem spec_idsRight.calls (k : Nat) (a0_0 : Int) (a0_1 : Int) (a0_2 : Bool) (a0_3 : Int) (a0_4 : Int) (a0_5 : Int) (a0_6 : ByteArray) (a0_7 : Bool) (A0_8 : Option Addr) (c0_8 : Nat) (l0_8 : List Int) (A0_9 : Option Addr) (c0_9 : Nat) (l0_9 : List (S30)) (r : Bool) (w : World) (hr0_8 : Kd.C (Kd.int .i64) w A0_8 l0_8.length l0_8) (hc0_8 : l0_8.length ≤ c0_8) (hr0_9 : Kd.C k30 w A0_9 l0_9.length l0_9) (hc0_9 : l0_9.length ≤ c0_9) (h : spec_idsRight.f k a0_0 a0_1 a0_2 a0_3 a0_4 a0_5 a0_6 a0_7 l0_8 l0_9 = some r) :
 Calls Tryz.prog 59 #[.agg #[.int .i64 a0_0, .int .i64 a0_1, .bool a0_2, .int .i64 a0_3, .int .i64 a0_4, .int .i64 a0_5, .string a0_6, .bool a0_7, .slice A0_8 l0_8.length c0_8, .slice A0_9 l0_9.length c0_9]] w fun e w' => e = .returned (.bool r) ∧ Below w.heap.size w w' := by
 have hu28 := Tryz.underlying28
 have HR0_8 := a0_ hr0_8
 have HC0_8 := a0_ hc0_8
 clear hr0_8 hc0_8
 have HR0_9 := a0_ hr0_9
 have HC0_9 := a0_ hc0_9
 clear hr0_9 hc0_9
 have HB := a0_ (Below.refl w.heap.size w)
 have H : (spec_idsRight.l0 k l0_8 (l0_8.length : Int) 0 a0_0 a0_1 a0_2 a0_3 a0_4 a0_5 a0_6 a0_7 l0_8 l0_9) = some r := h
 clear h
 have H' := a0_ H
 clear H
 go_enter Tryz.func59, Tryz.ntmps59
 go_wp2_with (first | ((with_reducible refine gate_dst (N := 1) rfl ?_); refine box_event ?hg (N := 1) ?hd (cs := #[.int .i64 a0_0, .int .i64 a0_1, .bool a0_2, .int .i64 a0_3, .int .i64 a0_4, .int .i64 a0_5, .string a0_6, .bool a0_7, .slice A0_8 l0_8.length c0_8, .slice A0_9 l0_9.length c0_9]) (t := 28) ?hr ?_; (case hd => rfl); (case hg => rfl); (case hr => first | (go_simp; done) | (go_simp; rfl)); intro gb115 hg w2 hbox hb; have n0_ := a0_ (below_step (by repeat (first | (with_reducible first | exact HB.out | apply b1_ | apply b2_ | apply b3_) | exact HB.out)) hb); have n1_ := a0_ (hbox); have n2_ := a0_ ((by rw [hg]; exact (below_size (by repeat (first | (with_reducible first | exact HB.out | apply b1_ | apply b2_ | apply b3_) | exact HB.out))) : w.heap.size ≤ gb115)); have n3_ := a0_ ((by rw [hg]; exact (below_size (by repeat (first | (with_reducible first | exact HB.out | apply b1_ | apply b2_ | apply b3_) | exact HB.out))) : w.heap.size ≤ gb115)); clear HB; have HB := n0_; have BK115 := n1_; have GW115 := n2_; have GE115 := n3_; clear n0_ n1_ n2_ n3_; clear hb hbox hg; have hcz3_0 : w2.cell? ⟨gb115, 0, none⟩ = some (.int .i64 a0_0) := (blk_cell BK115.out 0).trans rfl; have hcz3_1 : w2.cell? ⟨gb115, 1, none⟩ = some (.int .i64 a0_1) := (blk_cell BK115.out 1).trans rfl; have hcz3_2 : w2.cell? ⟨gb115, 2, none⟩ = some (.bool a0_2) := (blk_cell BK115.out 2).trans rfl; have hcz3_3 : w2.cell? ⟨gb115, 3, none⟩ = some (.int .i64 a0_3) := (blk_cell BK115.out 3).trans rfl; have hcz3_4 : w2.cell? ⟨gb115, 4, none⟩ = some (.int .i64 a0_4) := (blk_cell BK115.out 4).trans rfl; have hcz3_5 : w2.cell? ⟨gb115, 5, none⟩ = some (.int .i64 a0_5) := (blk_cell BK115.out 5).trans rfl; have hcz3_6 : w2.cell? ⟨gb115, 6, none⟩ = some (.string a0_6) := (blk_cell BK115.out 6).trans rfl; have hcz3_7 : w2.cell? ⟨gb115, 7, none⟩ = some (.bool a0_7) := (blk_cell BK115.out 7).trans rfl; have hcz3_8 : w2.cell? ⟨gb115, 8, none⟩ = some (.slice A0_8 l0_8.length c0_8) := (blk_cell BK115.out 8).trans rfl; have hcz3_9 : w2.cell? ⟨gb115, 9, none⟩ = some (.slice A0_9 l0_9.length c0_9) := (blk_cell BK115.out 9).trans rfl; have hfz3_0 := blk_frozen BK115.out 0; have hfz3_1 := blk_frozen BK115.out 1; have hfz3_2 := blk_frozen BK115.out 2; have hfz3_3 := blk_frozen BK115.out 3; have hfz3_4 := blk_frozen BK115.out 4; have hfz3_5 := blk_frozen BK115.out 5; have hfz3_6 := blk_frozen BK115.out 6; have hfz3_7 := blk_frozen BK115.out 7; have hfz3_8 := blk_frozen BK115.out 8; have hfz3_9 := blk_frozen BK115.out 9))
 go_loopg [8] k (fun kq v8 w' => ∃ (x8_1 : Int), v8 = .int .i64 x8_1 ∧ Aside0 (spec_idsRight.l0 kq l0_8 (l0_8.length : Int) x8_1 a0_0 a0_1 a0_2 a0_3 a0_4 a0_5 a0_6 a0_7 l0_8 l0_9 = some r) ∧ Aside0 (kq ≤ k) ∧ Aside0 (w'.heap[gb115]? = some (.cells #[.int .i64 a0_0, .int .i64 a0_1, .bool a0_2, .int .i64 a0_3, .int .i64 a0_4, .int .i64 a0_5, .string a0_6, .bool a0_7, (.slice A0_8 l0_8.length c0_8), (.slice A0_9 l0_9.length c0_9)] 28 (0, 0))) ∧ Aside0 (Below w.heap.size w w'))
 case atStart => exact ⟨(0), (by first | rfl | (simp; done) | (simp [*]; done)), H', ⟨Nat.le_refl _⟩, ⟨by (with_reducible repeat (first | refine k1_ ?_ _ | refine k2_ ?_ | refine k3_ ?_ _)); exact BK115.out⟩, ⟨by repeat (first | (with_reducible first | exact HB.out | apply b1_ | apply b2_ | apply b3_ | refine b4_ ?_ GE115.out) | exact HB.out)⟩⟩
 case round =>
  clear H'
  try clear p2
  try clear hcz3_0
  try clear hcz3_1
  try clear hcz3_2
  try clear hcz3_3
  try clear hcz3_4
  try clear hcz3_5
  try clear hcz3_6
  try clear hcz3_7
  try clear hcz3_8
  try clear hcz3_9
  try clear hfz3_0
  try clear hfz3_1
  try clear hfz3_2
  try clear hfz3_3
  try clear hfz3_4
  try clear hfz3_5
  try clear hfz3_6
  try clear hfz3_7
  try clear hfz3_8
  try clear hfz3_9
  obtain ⟨x8_1, rfl, HA, HK1, BK115, HB⟩ := hrel
  cases gk with
  | zero => exact absurd HA.out (by simp [spec_idsRight.l0])
  | succ k1 =>
   have H := HA.out
   clear HA
   simp only [spec_idsRight.l0] at H
   by_cases c4 : x8_1 < (l0_8.length : Int)
   ·
    rw [if_pos c4] at H
    have c4b0 : decide (x8_1 < (l0_8.length : Int)) = true := d2_ c4
    clear c4
    by_cases c5 : 0 ≤ x8_1
    ·
     rw [if_pos c5] at H
     have c5b0 : decide (0 ≤ x8_1) = true := d2_ c5
     clear c5
     by_cases c6 : x8_1 < (l0_8.length : Int)
     ·
      rw [if_pos c6] at H
      have c6b0 : decide (x8_1 < (l0_8.length : Int)) = true := d2_ c6
      clear c6
      by_cases c7 : (rd l0_8 x8_1) < 0
      ·
       rw [if_pos c7] at H
       have c7b0 : decide ((rd l0_8 x8_1) < 0) = true := d2_ c7
       clear c7
       obtain rfl := o1_ H
       have p116 : 0 ≤ (x8_1 : Int) := d1_ (by first | (with_reducible assumption) | assumption)
       have q116 : x8_1 < (l0_8.length : Int) := d1_ (by first | (with_reducible assumption) | assumption)
       obtain ⟨ad116, e116, hx116_0⟩ := Kd.at_int HR0_8.out x8_1 p116 q116
       cases e116
       replace hx116_0 := (HB.out.cell (World.block_lt_of_cell? w _ hx116_0)).trans hx116_0
       replace p116 := eq_true p116
       replace q116 := eq_true q116
       go_wp2
       go_ret
       exact ⟨by first | rfl | (simp [e1_, e2_] <;> rfl) | (simp [*, e1_, e2_] <;> rfl), by repeat (first | (with_reducible first | exact HB.out | apply b1_ | apply b2_ | apply b3_ | refine b4_ ?_ GE115.out) | exact HB.out)⟩
      ·
       rw [if_neg c7] at H
       have c7b0 : decide ((rd l0_8 x8_1) < 0) = false := d3_ c7
       clear c7
       by_cases c8 : (rd l0_8 x8_1) > 126
       ·
        rw [if_pos c8] at H
        have c8b0 : decide (126 < (rd l0_8 x8_1)) = true := d2_ c8
        clear c8
        obtain rfl := o1_ H
        have p116 : 0 ≤ (x8_1 : Int) := d1_ (by first | (with_reducible assumption) | assumption)
        have q116 : x8_1 < (l0_8.length : Int) := d1_ (by first | (with_reducible assumption) | assumption)
        obtain ⟨ad116, e116, hx116_0⟩ := Kd.at_int HR0_8.out x8_1 p116 q116
        cases e116
        replace hx116_0 := (HB.out.cell (World.block_lt_of_cell? w _ hx116_0)).trans hx116_0
        replace p116 := eq_true p116
        replace q116 := eq_true q116
        go_wp2
        go_ret
        exact ⟨by first | rfl | (simp [e1_, e2_] <;> rfl) | (simp [*, e1_, e2_] <;> rfl), by repeat (first | (with_reducible first | exact HB.out | apply b1_ | apply b2_ | apply b3_ | refine b4_ ?_ GE115.out) | exact HB.out)⟩
       ·
        rw [if_neg c8] at H
        have c8b0 : decide (126 < (rd l0_8 x8_1)) = false := d3_ c8
        clear c8
        have c9b0 := eq_true (d1_ (by first | (with_reducible assumption) | assumption) : 0 ≤ x8_1)
        by_cases c10 : x8_1 ≤ (l0_8.length : Int)
        ·
         rw [if_pos c10] at H
         have c10b0 := eq_true c10
         have c10b1 : decide (x8_1 ≤ (l0_8.length : Int)) = true := d2_ c10
         clear c10
         replace H := Option.bind_eq_some_iff.mp H
         obtain ⟨t118, A110, H⟩ := H
         replace H : (if t118 = true then (some false) else (spec_idsRight.l0 k1 l0_8 (l0_8.length : Int) (wrap64 (x8_1 + 1)) a0_0 a0_1 a0_2 a0_3 a0_4 a0_5 a0_6 a0_7 l0_8 l0_9)) = some r := H
         have A11 := a0_ A110
         clear A110
         by_cases c12 : t118 = true
         ·
          subst c12
          have H1 : (some false) = some r := by rw [if_pos rfl] at H; exact H
          clear H
          have H := H1
          clear H1
          obtain rfl := o1_ H
          have p116 : 0 ≤ (x8_1 : Int) := d1_ (by first | (with_reducible assumption) | assumption)
          have q116 : x8_1 < (l0_8.length : Int) := d1_ (by first | (with_reducible assumption) | assumption)
          obtain ⟨ad116, e116, hx116_0⟩ := Kd.at_int HR0_8.out x8_1 p116 q116
          cases e116
          replace hx116_0 := (HB.out.cell (World.block_lt_of_cell? w _ hx116_0)).trans hx116_0
          replace p116 := eq_true p116
          replace q116 := eq_true q116
          obtain ⟨hcz13_0, hcz13_1, hcz13_2, hcz13_3, hcz13_4, hcz13_5, hcz13_6, hcz13_7, hcz13_8, hcz13_9⟩ := cb10 BK115.out
          obtain ⟨hfz13_0, hfz13_1, hfz13_2, hfz13_3, hfz13_4, hfz13_5, hfz13_6, hfz13_7, hfz13_8, hfz13_9⟩ := fb10 BK115.out
          obtain ⟨i014, hi014, _, hsz14, _⟩ := info_parts info3
          obtain ⟨hcut14, hA14, hC14⟩ := print_take_of (P := Tryz.prog) (Value.int .i64) 0 26 3 .i64 Tryz.underlying26 hi014 hsz14 (some ad116) c0_8 l0_8 x8_1 (d1_ (by first | (with_reducible assumption) | assumption)) (d1_ (by first | (with_reducible assumption) | assumption)) HC0_8.out
          have HR117 := a0_ (Kd.C_of_reads (h1 := fun _ => rfl) (hA14 _ (Kd.reads_of_C HR0_8.out)))
          have HC117 := a0_ hC14
          clear hA14 hC14 hi014 hsz14
          go_wp2_with (first | (go_at_call 56; (with_reducible refine (in_take k1 (rd l0_8 x8_1) _ _ l0_8 x8_1 true _ ?side1 ?side2 A11.out (by have hq_ : (x8_1 : Int) ≤ (l0_8.length : Int) := of_eq_true (by assumption); omega)).mono ?_); (case side1 => repeat (first | exact (Kd.C_below HR117.out HB.out) | (with_reducible refine Kd.C_alloc ?_ _) | (with_reducible refine Kd.C_drewN ?_ _) | (with_reducible refine Kd.C_drew ?_))); (case side2 => exact HC117.out); rintro e w' ⟨rfl, ⟨nd, rfl⟩⟩))
          go_ret
          exact ⟨by first | rfl | (simp [e1_, e2_] <;> rfl) | (simp [*, e1_, e2_] <;> rfl), by repeat (first | (with_reducible first | exact HB.out | apply b1_ | apply b2_ | apply b3_ | refine b4_ ?_ GE115.out) | exact HB.out)⟩
         ·
          replace c12 := Bool.eq_false_iff.mpr c12
          subst c12
          have H1 : (spec_idsRight.l0 k1 l0_8 (l0_8.length : Int) (wrap64 (x8_1 + 1)) a0_0 a0_1 a0_2 a0_3 a0_4 a0_5 a0_6 a0_7 l0_8 l0_9) = some r := by rw [if_neg (show ¬ (false = true) by decide)] at H; exact H
          clear H
          have H := H1
          clear H1
          have H' := a0_ H
          clear H
          have p116 : 0 ≤ (x8_1 : Int) := d1_ (by first | (with_reducible assumption) | assumption)
          have q116 : x8_1 < (l0_8.length : Int) := d1_ (by first | (with_reducible assumption) | assumption)
          obtain ⟨ad116, e116, hx116_0⟩ := Kd.at_int HR0_8.out x8_1 p116 q116
          cases e116
          replace hx116_0 := (HB.out.cell (World.block_lt_of_cell? w _ hx116_0)).trans hx116_0
          replace p116 := eq_true p116
          replace q116 := eq_true q116
          obtain ⟨hcz15_0, hcz15_1, hcz15_2, hcz15_3, hcz15_4, hcz15_5, hcz15_6, hcz15_7, hcz15_8, hcz15_9⟩ := cb10 BK115.out
          obtain ⟨hfz15_0, hfz15_1, hfz15_2, hfz15_3, hfz15_4, hfz15_5, hfz15_6, hfz15_7, hfz15_8, hfz15_9⟩ := fb10 BK115.out
          obtain ⟨i016, hi016, _, hsz16, _⟩ := info_parts info3
          obtain ⟨hcut16, hA16, hC16⟩ := print_take_of (P := Tryz.prog) (Value.int .i64) 0 26 3 .i64 Tryz.underlying26 hi016 hsz16 (some ad116) c0_8 l0_8 x8_1 (d1_ (by first | (with_reducible assumption) | assumption)) (d1_ (by first | (with_reducible assumption) | assumption)) HC0_8.out
          have HR117 := a0_ (Kd.C_of_reads (h1 := fun _ => rfl) (hA16 _ (Kd.reads_of_C HR0_8.out)))
          have HC117 := a0_ hC16
          clear hA16 hC16 hi016 hsz16
          go_wp2_with (first | (go_at_call 56; (with_reducible refine (in_take k1 (rd l0_8 x8_1) _ _ l0_8 x8_1 false _ ?side1 ?side2 A11.out (by have hq_ : (x8_1 : Int) ≤ (l0_8.length : Int) := of_eq_true (by assumption); omega)).mono ?_); (case side1 => repeat (first | exact (Kd.C_below HR117.out HB.out) | (with_reducible refine Kd.C_alloc ?_ _) | (with_reducible refine Kd.C_drewN ?_ _) | (with_reducible refine Kd.C_drew ?_))); (case side2 => exact HC117.out); rintro e w' ⟨rfl, ⟨nd, rfl⟩⟩))
          go_roundg k1
          case measure => have := HK1.out; omega
          case rel => exact ⟨(wrap64 (x8_1 + 1)), (by first | rfl | (simp; done) | (simp [*]; done)), H', ⟨by have := HK1.out; omega⟩, ⟨by (with_reducible repeat (first | refine k1_ ?_ _ | refine k2_ ?_ | refine k3_ ?_ _)); exact BK115.out⟩, ⟨by repeat (first | (with_reducible first | exact HB.out | apply b1_ | apply b2_ | apply b3_ | refine b4_ ?_ GE115.out) | exact HB.out)⟩⟩
        ·
         rw [if_neg c10] at H
         exact absurd H (by simp)
     ·
      rw [if_neg c6] at H
      exact absurd H (by simp)
    ·
     rw [if_neg c5] at H
     exact absurd H (by simp)
   ·
    rw [if_neg c4] at H
    have c4b0 : decide (x8_1 < (l0_8.length : Int)) = false := d3_ c4
    clear c4
    obtain rfl := o1_ H
    obtain ⟨hcz17_0, hcz17_1, hcz17_2, hcz17_3, hcz17_4, hcz17_5, hcz17_6, hcz17_7, hcz17_8, hcz17_9⟩ := cb10 BK115.out
    obtain ⟨hfz17_0, hfz17_1, hfz17_2, hfz17_3, hfz17_4, hfz17_5, hfz17_6, hfz17_7, hfz17_8, hfz17_9⟩ := fb10 BK115.out
    go_wp2
    go_ret
    exact ⟨by first | rfl | (simp [e1_, e2_] <;> rfl) | (simp [*, e1_, e2_] <;> rfl), by repeat (first | (with_reducible first | exact HB.out | apply b1_ | apply b2_ | apply b3_ | refine b4_ ?_ GE115.out) | exact HB.out)⟩
end Go.Proofs.YteebgnhhjlgnjaaGreatDoor.V
