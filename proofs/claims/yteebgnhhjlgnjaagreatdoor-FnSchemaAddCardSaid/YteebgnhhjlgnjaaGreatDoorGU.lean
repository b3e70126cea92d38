/- . -/
import Derived.Test.YteebgnhhjlgnjaaGreatDoorG0
namespace Go.Proofs.YteebgnhhjlgnjaaGreatDoor.V
open Go.RowKit Go.Proofs.YteebgnhhjlgnjaaGreatDoorW.PrintWords Go.Proofs.YteebgnhhjlgnjaaGreatDoorW.PrintLast Go.Proofs.YteebgnhhjlgnjaaGreatDoorW.PrintMore
set_option maxHeartbeats 40000000
set_option maxRecDepth 100000
set_option linter.unusedVariables false
set_option linter.unusedSimpArgs false
theorem wp_region_list {P : Program} {id : Nat} {ops : Array Oper} {Q : Exit → Act → World → Prop} {a : Act} {w : World} (l : List Oper) (hl : ops = l.toArray) (h : wpList P ops Q l a w) : (Code.region id ops false).wp P Q a w := by
 subst hl
 refine wp_region ?_
 rw [show List.range l.toArray.size = List.range' 0 l.length from by rw [List.size_toArray, List.range_eq_range']]
 rw [wpOps_eq_wpList l 0 (fun j => by simp)]
 exact h
theorem spec_unused.calls (a0_0 : Int) (a0_1 : Int) (a0_2 : Bool) (a0_3 : Int) (a0_4 : Int) (a0_5 : Int) (a0_6 : ByteArray) (a0_7 : Bool) (A0_8 : Option Addr) (c0_8 : Nat) (l0_8 : List Int) (A0_9 : Option Addr) (c0_9 : Nat) (l0_9 : List (S30)) (r : Bool) (w : World) (hr0_8 : Kd.C (Kd.int .i64) w A0_8 l0_8.length l0_8) (hc0_8 : l0_8.length ≤ c0_8) (hr0_9 : Kd.C k30 w A0_9 l0_9.length l0_9) (hc0_9 : l0_9.length ≤ c0_9) (h : spec_unused.f a0_0 a0_1 a0_2 a0_3 a0_4 a0_5 a0_6 a0_7 l0_8 l0_9 = some r) :
 Calls Tryz.prog 54 #[.agg #[.int .i64 a0_0, .int .i64 a0_1, .bool a0_2, .int .i64 a0_3, .int .i64 a0_4, .int .i64 a0_5, .string a0_6, .bool a0_7, .slice A0_8 l0_8.length c0_8, .slice A0_9 l0_9.length c0_9]] w fun e w' => e = .returned (.bool r) ∧ Below w.heap.size w w' := by
 have hr : unusedB ⟨a0_0, a0_1, a0_2, a0_3, a0_4, a0_5, a0_6, a0_7, l0_8, l0_9⟩ = r := Option.some.inj h
 clear h hr0_8 hr0_9
 have HF := Aside0.mk hr
 clear hr
 go_enter Tryz.func54, Tryz.ntmps54
 go_upto_region 2 with (first | ((with_reducible refine gate_dst (N := 1) rfl ?_); refine box_event ?hg (N := 1) ?hd (cs := #[.int .i64 a0_0, .int .i64 a0_1, .bool a0_2, .int .i64 a0_3, .int .i64 a0_4, .int .i64 a0_5, .string a0_6, .bool a0_7, .slice A0_8 l0_8.length c0_8, .slice A0_9 l0_9.length c0_9]) (t := 28) ?hr ?_; (case hd => rfl); (case hg => rfl); (case hr => first | (go_simp; done) | (go_simp; rfl)); intro gb hg w1 hbox hb; have HB := Aside0.mk hb; have BK := Aside0.mk hbox; have GE : Aside0 (w.heap.size ≤ gb) := ⟨by rw [hg]; exact Nat.le_refl _⟩; clear hb hbox hg; have hc_0 : w1.cell? ⟨gb, 0, none⟩ = some (.int .i64 a0_0) := (blk_cell BK.out 0).trans rfl; have hc_1 : w1.cell? ⟨gb, 1, none⟩ = some (.int .i64 a0_1) := (blk_cell BK.out 1).trans rfl; have hc_2 : w1.cell? ⟨gb, 2, none⟩ = some (.bool a0_2) := (blk_cell BK.out 2).trans rfl; have hc_3 : w1.cell? ⟨gb, 3, none⟩ = some (.int .i64 a0_3) := (blk_cell BK.out 3).trans rfl; have hc_4 : w1.cell? ⟨gb, 4, none⟩ = some (.int .i64 a0_4) := (blk_cell BK.out 4).trans rfl; have hc_5 : w1.cell? ⟨gb, 5, none⟩ = some (.int .i64 a0_5) := (blk_cell BK.out 5).trans rfl; have hc_6 : w1.cell? ⟨gb, 6, none⟩ = some (.string a0_6) := (blk_cell BK.out 6).trans rfl; have hc_7 : w1.cell? ⟨gb, 7, none⟩ = some (.bool a0_7) := (blk_cell BK.out 7).trans rfl; have hc_8 : w1.cell? ⟨gb, 8, none⟩ = some (.slice A0_8 l0_8.length c0_8) := (blk_cell BK.out 8).trans rfl; have hc_9 : w1.cell? ⟨gb, 9, none⟩ = some (.slice A0_9 l0_9.length c0_9) := (blk_cell BK.out 9).trans rfl))
 refine wp_region_list _ rfl ?_
 simp only [List.append_eq, List.cons_append, List.nil_append]
 obtain ⟨M0, hM0⟩ : ∃ M : Act → World → Prop, ∀ a' w', M a' w' = (∃ u4 u5 u6 u7 u8 u9 u10 u11 u12 u13 p, a' = { tmps := #[(.agg #[.int .i64 a0_0, .int .i64 a0_1, .bool a0_2, .int .i64 a0_3, .int .i64 a0_4, .int .i64 a0_5, .string a0_6, .bool a0_7, .slice A0_8 l0_8.length c0_8, .slice A0_9 l0_9.length c0_9] : Value), .pointer (some ⟨gb, 0, none⟩), .bool false, .int .i64 a0_0, u4, u5, u6, u7, u8, u9, u10, u11, u12, u13, .bool p, undef, undef, undef, undef, undef, undef, undef, undef, undef, undef, undef, undef, undef, undef, undef, undef, undef, undef, undef, undef, undef, undef, undef, undef, undef, undef, undef, undef, undef, undef, undef, undef, undef, undef, undef, undef, undef, undef, undef, undef, undef, undef, undef, undef, undef, undef, undef, undef, undef, undef, undef, undef, undef, undef, undef, undef, undef, undef, undef, undef, undef], defers := [] } ∧ p = ((((a0_1 == 0)) || ([2, 3, 7, 15, 16] : List Int).contains a0_0)) ∧ Below w.heap.size w w' ∧ w'.heap[gb]? = some (.cells #[.int .i64 a0_0, .int .i64 a0_1, .bool a0_2, .int .i64 a0_3, .int .i64 a0_4, .int .i64 a0_5, .string a0_6, .bool a0_7, .slice A0_8 l0_8.length c0_8, .slice A0_9 l0_9.length c0_9] 28 (0, 0))) := ⟨fun a' w' => _, fun _ _ => rfl⟩
 have HM0 := Aside0.mk hM0
 clear hM0
 refine wpList_cut M0 9 _ _ _ ?_ ?_
 ·simp only [List.take_succ_cons, List.take_zero, List.drop_succ_cons, List.drop_zero]
  cases hA : (a0_1 == 0) with
  | false =>
   go_wp2_with (go_at_call 56; refine (in_lit a0_0 [2, 3, 7, 15, 16] (by decide) _ 3 w1 5 rfl rfl).mono ?_; rintro e w5 ⟨rfl, hb5⟩)
   show M0 _ _; rw [HM0.out]; exact ⟨_, _, _, _, _, _, _, _, _, _, _, rfl, by simp [*], below_step HB.out hb5, blk_below BK.out hb5⟩
  | true =>
   go_wp2
   show M0 _ _; rw [HM0.out]; exact ⟨_, _, _, _, _, _, _, _, _, _, _, rfl, by simp [*], HB.out, BK.out⟩
 simp only [List.drop_succ_cons, List.drop_zero]
 intro a' w2 hm
 rw [HM0.out] at hm
 obtain ⟨u4, u5, u6, u7, u8, u9, u10, u11, u12, u13, p0, rfl, hp0, hb, hbox⟩ := hm
 clear HM0
 clear HB BK hc_0 hc_1 hc_2 hc_3 hc_4 hc_5 hc_6 hc_7 hc_8 hc_9
 have HB := Aside0.mk hb
 have BK := Aside0.mk hbox
 clear hb hbox
 have HP0 := Aside0.mk hp0
 clear hp0
 obtain ⟨hc_0, hc_1, hc_2, hc_3, hc_4, hc_5, hc_6, hc_7, hc_8, hc_9⟩ := cb10 BK.out
 obtain ⟨M1, hM1⟩ : ∃ M : Act → World → Prop, ∀ a' w', M a' w' = (∃ u4 u5 u6 u7 u8 u9 u10 u11 u12 u13 u14 u15 u16 u17 u18 u19 u20 u21 u22 p, a' = { tmps := #[(.agg #[.int .i64 a0_0, .int .i64 a0_1, .bool a0_2, .int .i64 a0_3, .int .i64 a0_4, .int .i64 a0_5, .string a0_6, .bool a0_7, .slice A0_8 l0_8.length c0_8, .slice A0_9 l0_9.length c0_9] : Value), .pointer (some ⟨gb, 0, none⟩), .bool false, .int .i64 a0_0, u4, u5, u6, u7, u8, u9, u10, u11, u12, u13, u14, u15, u16, u17, u18, u19, u20, u21, u22, .bool p, undef, undef, undef, undef, undef, undef, undef, undef, undef, undef, undef, undef, undef, undef, undef, undef, undef, undef, undef, undef, undef, undef, undef, undef, undef, undef, undef, undef, undef, undef, undef, undef, undef, undef, undef, undef, undef, undef, undef, undef, undef, undef, undef, undef, undef, undef, undef, undef, undef, undef, undef, undef], defers := [] } ∧ p = (p0 && (((!a0_2)) || (a0_0 == 2))) ∧ Below w.heap.size w w' ∧ w'.heap[gb]? = some (.cells #[.int .i64 a0_0, .int .i64 a0_1, .bool a0_2, .int .i64 a0_3, .int .i64 a0_4, .int .i64 a0_5, .string a0_6, .bool a0_7, .slice A0_8 l0_8.length c0_8, .slice A0_9 l0_9.length c0_9] 28 (0, 0))) := ⟨fun a' w' => _, fun _ _ => rfl⟩
 have HM1 := Aside0.mk hM1
 clear hM1
 refine wpList_cut M1 9 _ _ _ ?_ ?_
 ·simp only [List.take_succ_cons, List.take_zero, List.drop_succ_cons, List.drop_zero]
  cases p0 with
  | false =>
   go_wp2
   show M1 _ _; rw [HM1.out]; exact ⟨_, _, _, _, _, _, _, _, _, _, _, _, _, _, _, _, _, _, _, _, rfl, by rfl, HB.out, BK.out⟩
  | true =>
   cases a0_2 with
   | false =>
    go_wp2
    show M1 _ _; rw [HM1.out]; exact ⟨_, _, _, _, _, _, _, _, _, _, _, _, _, _, _, _, _, _, _, _, rfl, by simp [*], HB.out, BK.out⟩
   | true =>
    cases hk : (a0_0 == 2) with
    | false =>
     go_wp2
     show M1 _ _; rw [HM1.out]; exact ⟨_, _, _, _, _, _, _, _, _, _, _, _, _, _, _, _, _, _, _, _, rfl, by simp [*], HB.out, BK.out⟩
    | true =>
     go_wp2
     show M1 _ _; rw [HM1.out]; exact ⟨_, _, _, _, _, _, _, _, _, _, _, _, _, _, _, _, _, _, _, _, rfl, by simp [*], HB.out, BK.out⟩
 simp only [List.drop_succ_cons, List.drop_zero]
 intro a' w3 hm
 rw [HM1.out] at hm
 obtain ⟨u4, u5, u6, u7, u8, u9, u10, u11, u12, u13, u14, u15, u16, u17, u18, u19, u20, u21, u22, p1, rfl, hp1, hb, hbox⟩ := hm
 clear HM1
 clear HB BK hc_0 hc_1 hc_2 hc_3 hc_4 hc_5 hc_6 hc_7 hc_8 hc_9
 have HB := Aside0.mk hb
 have BK := Aside0.mk hbox
 clear hb hbox
 have HP1 := Aside0.mk hp1
 clear hp1
 obtain ⟨hc_0, hc_1, hc_2, hc_3, hc_4, hc_5, hc_6, hc_7, hc_8, hc_9⟩ := cb10 BK.out
 obtain ⟨M2, hM2⟩ : ∃ M : Act → World → Prop, ∀ a' w', M a' w' = (∃ u4 u5 u6 u7 u8 u9 u10 u11 u12 u13 u14 u15 u16 u17 u18 u19 u20 u21 u22 u23 u24 u25 u26 u27 u28 u29 u30 u31 u32 p, a' = { tmps := #[(.agg #[.int .i64 a0_0, .int .i64 a0_1, .bool a0_2, .int .i64 a0_3, .int .i64 a0_4, .int .i64 a0_5, .string a0_6, .bool a0_7, .slice A0_8 l0_8.length c0_8, .slice A0_9 l0_9.length c0_9] : Value), .pointer (some ⟨gb, 0, none⟩), .bool false, .int .i64 a0_0, u4, u5, u6, u7, u8, u9, u10, u11, u12, u13, u14, u15, u16, u17, u18, u19, u20, u21, u22, u23, u24, u25, u26, u27, u28, u29, u30, u31, u32, .bool p, undef, undef, undef, undef, undef, undef, undef, undef, undef, undef, undef, undef, undef, undef, undef, undef, undef, undef, undef, undef, undef, undef, undef, undef, undef, undef, undef, undef, undef, undef, undef, undef, undef, undef, undef, undef, undef, undef, undef, undef, undef, undef], defers := [] } ∧ p = (p1 && (((a0_3 == 0)) || ([8, 9, 10, 11, 14, 18] : List Int).contains a0_0)) ∧ Below w.heap.size w w' ∧ w'.heap[gb]? = some (.cells #[.int .i64 a0_0, .int .i64 a0_1, .bool a0_2, .int .i64 a0_3, .int .i64 a0_4, .int .i64 a0_5, .string a0_6, .bool a0_7, .slice A0_8 l0_8.length c0_8, .slice A0_9 l0_9.length c0_9] 28 (0, 0))) := ⟨fun a' w' => _, fun _ _ => rfl⟩
 have HM2 := Aside0.mk hM2
 clear hM2
 refine wpList_cut M2 10 _ _ _ ?_ ?_
 ·simp only [List.take_succ_cons, List.take_zero, List.drop_succ_cons, List.drop_zero]
  cases p1 with
  | false =>
   go_wp2
   show M2 _ _; rw [HM2.out]; exact ⟨_, _, _, _, _, _, _, _, _, _, _, _, _, _, _, _, _, _, _, _, _, _, _, _, _, _, _, _, _, _, rfl, by rfl, HB.out, BK.out⟩
  | true =>
   cases hA : (a0_3 == 0) with
   | false =>
    go_wp2_with (go_at_call 56; refine (in_lit a0_0 [8, 9, 10, 11, 14, 18] (by decide) _ 3 w3 6 rfl rfl).mono ?_; rintro e w5 ⟨rfl, hb5⟩)
    show M2 _ _; rw [HM2.out]; exact ⟨_, _, _, _, _, _, _, _, _, _, _, _, _, _, _, _, _, _, _, _, _, _, _, _, _, _, _, _, _, _, rfl, by simp [*], below_step HB.out hb5, blk_below BK.out hb5⟩
   | true =>
    go_wp2
    show M2 _ _; rw [HM2.out]; exact ⟨_, _, _, _, _, _, _, _, _, _, _, _, _, _, _, _, _, _, _, _, _, _, _, _, _, _, _, _, _, _, rfl, by simp [*], HB.out, BK.out⟩
 simp only [List.drop_succ_cons, List.drop_zero]
 intro a' w4 hm
 rw [HM2.out] at hm
 obtain ⟨u4, u5, u6, u7, u8, u9, u10, u11, u12, u13, u14, u15, u16, u17, u18, u19, u20, u21, u22, u23, u24, u25, u26, u27, u28, u29, u30, u31, u32, p2, rfl, hp2, hb, hbox⟩ := hm
 clear HM2
 clear HB BK hc_0 hc_1 hc_2 hc_3 hc_4 hc_5 hc_6 hc_7 hc_8 hc_9
 have HB := Aside0.mk hb
 have BK := Aside0.mk hbox
 clear hb hbox
 have HP2 := Aside0.mk hp2
 clear hp2
 obtain ⟨hc_0, hc_1, hc_2, hc_3, hc_4, hc_5, hc_6, hc_7, hc_8, hc_9⟩ := cb10 BK.out
 obtain ⟨M3, hM3⟩ : ∃ M : Act → World → Prop, ∀ a' w', M a' w' = (∃ u4 u5 u6 u7 u8 u9 u10 u11 u12 u13 u14 u15 u16 u17 u18 u19 u20 u21 u22 u23 u24 u25 u26 u27 u28 u29 u30 u31 u32 u33 u34 u35 u36 u37 u38 u39 u40 u41 u42 u43 u44 u45 u46 p, a' = { tmps := #[(.agg #[.int .i64 a0_0, .int .i64 a0_1, .bool a0_2, .int .i64 a0_3, .int .i64 a0_4, .int .i64 a0_5, .string a0_6, .bool a0_7, .slice A0_8 l0_8.length c0_8, .slice A0_9 l0_9.length c0_9] : Value), .pointer (some ⟨gb, 0, none⟩), .bool false, .int .i64 a0_0, u4, u5, u6, u7, u8, u9, u10, u11, u12, u13, u14, u15, u16, u17, u18, u19, u20, u21, u22, u23, u24, u25, u26, u27, u28, u29, u30, u31, u32, u33, u34, u35, u36, u37, u38, u39, u40, u41, u42, u43, u44, u45, u46, .bool p, undef, undef, undef, undef, undef, undef, undef, undef, undef, undef, undef, undef, undef, undef, undef, undef, undef, undef, undef, undef, undef, undef, undef, undef, undef, undef, undef, undef], defers := [] } ∧ p = (p2 && (((a0_4 == 0) && (a0_5 == 0)) || (a0_0 == 7))) ∧ Below w.heap.size w w' ∧ w'.heap[gb]? = some (.cells #[.int .i64 a0_0, .int .i64 a0_1, .bool a0_2, .int .i64 a0_3, .int .i64 a0_4, .int .i64 a0_5, .string a0_6, .bool a0_7, .slice A0_8 l0_8.length c0_8, .slice A0_9 l0_9.length c0_9] 28 (0, 0))) := ⟨fun a' w' => _, fun _ _ => rfl⟩
 have HM3 := Aside0.mk hM3
 clear hM3
 refine wpList_cut M3 14 _ _ _ ?_ ?_
 ·simp only [List.take_succ_cons, List.take_zero, List.drop_succ_cons, List.drop_zero]
  cases p2 with
  | false =>
   go_wp2
   show M3 _ _; rw [HM3.out]; exact ⟨_, _, _, _, _, _, _, _, _, _, _, _, _, _, _, _, _, _, _, _, _, _, _, _, _, _, _, _, _, _, _, _, _, _, _, _, _, _, _, _, _, _, _, _, rfl, by rfl, HB.out, BK.out⟩
  | true =>
   cases hB : (a0_4 == 0) with
   | false =>
    cases hk : (a0_0 == 7) with
    | false =>
     go_wp2
     show M3 _ _; rw [HM3.out]; exact ⟨_, _, _, _, _, _, _, _, _, _, _, _, _, _, _, _, _, _, _, _, _, _, _, _, _, _, _, _, _, _, _, _, _, _, _, _, _, _, _, _, _, _, _, _, rfl, by simp [*], HB.out, BK.out⟩
    | true =>
     go_wp2
     show M3 _ _; rw [HM3.out]; exact ⟨_, _, _, _, _, _, _, _, _, _, _, _, _, _, _, _, _, _, _, _, _, _, _, _, _, _, _, _, _, _, _, _, _, _, _, _, _, _, _, _, _, _, _, _, rfl, by simp [*], HB.out, BK.out⟩
   | true =>
    cases hA : (a0_5 == 0) with
    | false =>
     cases hk : (a0_0 == 7) with
     | false =>
      go_wp2
      show M3 _ _; rw [HM3.out]; exact ⟨_, _, _, _, _, _, _, _, _, _, _, _, _, _, _, _, _, _, _, _, _, _, _, _, _, _, _, _, _, _, _, _, _, _, _, _, _, _, _, _, _, _, _, _, rfl, by simp [*], HB.out, BK.out⟩
     | true =>
      go_wp2
      show M3 _ _; rw [HM3.out]; exact ⟨_, _, _, _, _, _, _, _, _, _, _, _, _, _, _, _, _, _, _, _, _, _, _, _, _, _, _, _, _, _, _, _, _, _, _, _, _, _, _, _, _, _, _, _, rfl, by simp [*], HB.out, BK.out⟩
    | true =>
     go_wp2
     show M3 _ _; rw [HM3.out]; exact ⟨_, _, _, _, _, _, _, _, _, _, _, _, _, _, _, _, _, _, _, _, _, _, _, _, _, _, _, _, _, _, _, _, _, _, _, _, _, _, _, _, _, _, _, _, rfl, by simp [*], HB.out, BK.out⟩
 simp only [List.drop_succ_cons, List.drop_zero]
 intro a' w5 hm
 rw [HM3.out] at hm
 obtain ⟨u4, u5, u6, u7, u8, u9, u10, u11, u12, u13, u14, u15, u16, u17, u18, u19, u20, u21, u22, u23, u24, u25, u26, u27, u28, u29, u30, u31, u32, u33, u34, u35, u36, u37, u38, u39, u40, u41, u42, u43, u44, u45, u46, p3, rfl, hp3, hb, hbox⟩ := hm
 clear HM3
 clear HB BK hc_0 hc_1 hc_2 hc_3 hc_4 hc_5 hc_6 hc_7 hc_8 hc_9
 have HB := Aside0.mk hb
 have BK := Aside0.mk hbox
 clear hb hbox
 have HP3 := Aside0.mk hp3
 clear hp3
 obtain ⟨hc_0, hc_1, hc_2, hc_3, hc_4, hc_5, hc_6, hc_7, hc_8, hc_9⟩ := cb10 BK.out
 obtain ⟨M4, hM4⟩ : ∃ M : Act → World → Prop, ∀ a' w', M a' w' = (∃ u4 u5 u6 u7 u8 u9 u10 u11 u12 u13 u14 u15 u16 u17 u18 u19 u20 u21 u22 u23 u24 u25 u26 u27 u28 u29 u30 u31 u32 u33 u34 u35 u36 u37 u38 u39 u40 u41 u42 u43 u44 u45 u46 u47 u48 u49 u50 u51 u52 u53 u54 u55 p, a' = { tmps := #[(.agg #[.int .i64 a0_0, .int .i64 a0_1, .bool a0_2, .int .i64 a0_3, .int .i64 a0_4, .int .i64 a0_5, .string a0_6, .bool a0_7, .slice A0_8 l0_8.length c0_8, .slice A0_9 l0_9.length c0_9] : Value), .pointer (some ⟨gb, 0, none⟩), .bool false, .int .i64 a0_0, u4, u5, u6, u7, u8, u9, u10, u11, u12, u13, u14, u15, u16, u17, u18, u19, u20, u21, u22, u23, u24, u25, u26, u27, u28, u29, u30, u31, u32, u33, u34, u35, u36, u37, u38, u39, u40, u41, u42, u43, u44, u45, u46, u47, u48, u49, u50, u51, u52, u53, u54, u55, .bool p, undef, undef, undef, undef, undef, undef, undef, undef, undef, undef, undef, undef, undef, undef, undef, undef, undef, undef, undef], defers := [] } ∧ p = (p3 && (((a0_6.toList == [])) || (a0_0 == 10))) ∧ Below w.heap.size w w' ∧ w'.heap[gb]? = some (.cells #[.int .i64 a0_0, .int .i64 a0_1, .bool a0_2, .int .i64 a0_3, .int .i64 a0_4, .int .i64 a0_5, .string a0_6, .bool a0_7, .slice A0_8 l0_8.length c0_8, .slice A0_9 l0_9.length c0_9] 28 (0, 0))) := ⟨fun a' w' => _, fun _ _ => rfl⟩
 have HM4 := Aside0.mk hM4
 clear hM4
 refine wpList_cut M4 9 _ _ _ ?_ ?_
 ·simp only [List.take_succ_cons, List.take_zero, List.drop_succ_cons, List.drop_zero]
  cases p3 with
  | false =>
   go_wp2
   show M4 _ _; rw [HM4.out]; exact ⟨_, _, _, _, _, _, _, _, _, _, _, _, _, _, _, _, _, _, _, _, _, _, _, _, _, _, _, _, _, _, _, _, _, _, _, _, _, _, _, _, _, _, _, _, _, _, _, _, _, _, _, _, _, rfl, by rfl, HB.out, BK.out⟩
  | true =>
   cases hA : (a0_6.toList == []) with
   | false =>
    cases hk : (a0_0 == 10) with
    | false =>
     go_wp2
     show M4 _ _; rw [HM4.out]; exact ⟨_, _, _, _, _, _, _, _, _, _, _, _, _, _, _, _, _, _, _, _, _, _, _, _, _, _, _, _, _, _, _, _, _, _, _, _, _, _, _, _, _, _, _, _, _, _, _, _, _, _, _, _, _, rfl, by simp [*], HB.out, BK.out⟩
    | true =>
     go_wp2
     show M4 _ _; rw [HM4.out]; exact ⟨_, _, _, _, _, _, _, _, _, _, _, _, _, _, _, _, _, _, _, _, _, _, _, _, _, _, _, _, _, _, _, _, _, _, _, _, _, _, _, _, _, _, _, _, _, _, _, _, _, _, _, _, _, rfl, by simp [*], HB.out, BK.out⟩
   | true =>
    go_wp2
    show M4 _ _; rw [HM4.out]; exact ⟨_, _, _, _, _, _, _, _, _, _, _, _, _, _, _, _, _, _, _, _, _, _, _, _, _, _, _, _, _, _, _, _, _, _, _, _, _, _, _, _, _, _, _, _, _, _, _, _, _, _, _, _, _, rfl, by simp [*], HB.out, BK.out⟩
 simp only [List.drop_succ_cons, List.drop_zero]
 intro a' w6 hm
 rw [HM4.out] at hm
 obtain ⟨u4, u5, u6, u7, u8, u9, u10, u11, u12, u13, u14, u15, u16, u17, u18, u19, u20, u21, u22, u23, u24, u25, u26, u27, u28, u29, u30, u31, u32, u33, u34, u35, u36, u37, u38, u39, u40, u41, u42, u43, u44, u45, u46, u47, u48, u49, u50, u51, u52, u53, u54, u55, p4, rfl, hp4, hb, hbox⟩ := hm
 clear HM4
 clear HB BK hc_0 hc_1 hc_2 hc_3 hc_4 hc_5 hc_6 hc_7 hc_8 hc_9
 have HB := Aside0.mk hb
 have BK := Aside0.mk hbox
 clear hb hbox
 have HP4 := Aside0.mk hp4
 clear hp4
 obtain ⟨hc_0, hc_1, hc_2, hc_3, hc_4, hc_5, hc_6, hc_7, hc_8, hc_9⟩ := cb10 BK.out
 obtain ⟨M5, hM5⟩ : ∃ M : Act → World → Prop, ∀ a' w', M a' w' = (∃ u4 u5 u6 u7 u8 u9 u10 u11 u12 u13 u14 u15 u16 u17 u18 u19 u20 u21 u22 u23 u24 u25 u26 u27 u28 u29 u30 u31 u32 u33 u34 u35 u36 u37 u38 u39 u40 u41 u42 u43 u44 u45 u46 u47 u48 u49 u50 u51 u52 u53 u54 u55 u56 u57 u58 u59 u60 u61 u62 u63 u64 u65 p, a' = { tmps := #[(.agg #[.int .i64 a0_0, .int .i64 a0_1, .bool a0_2, .int .i64 a0_3, .int .i64 a0_4, .int .i64 a0_5, .string a0_6, .bool a0_7, .slice A0_8 l0_8.length c0_8, .slice A0_9 l0_9.length c0_9] : Value), .pointer (some ⟨gb, 0, none⟩), .bool false, .int .i64 a0_0, u4, u5, u6, u7, u8, u9, u10, u11, u12, u13, u14, u15, u16, u17, u18, u19, u20, u21, u22, u23, u24, u25, u26, u27, u28, u29, u30, u31, u32, u33, u34, u35, u36, u37, u38, u39, u40, u41, u42, u43, u44, u45, u46, u47, u48, u49, u50, u51, u52, u53, u54, u55, u56, u57, u58, u59, u60, u61, u62, u63, u64, u65, .bool p, undef, undef, undef, undef, undef, undef, undef, undef, undef], defers := [] } ∧ p = (p4 && (((!a0_7)) || ([17, 27] : List Int).contains a0_0)) ∧ Below w.heap.size w w' ∧ w'.heap[gb]? = some (.cells #[.int .i64 a0_0, .int .i64 a0_1, .bool a0_2, .int .i64 a0_3, .int .i64 a0_4, .int .i64 a0_5, .string a0_6, .bool a0_7, .slice A0_8 l0_8.length c0_8, .slice A0_9 l0_9.length c0_9] 28 (0, 0))) := ⟨fun a' w' => _, fun _ _ => rfl⟩
 have HM5 := Aside0.mk hM5
 clear hM5
 refine wpList_cut M5 10 _ _ _ ?_ ?_
 ·simp only [List.take_succ_cons, List.take_zero, List.drop_succ_cons, List.drop_zero]
  cases p4 with
  | false =>
   go_wp2
   show M5 _ _; rw [HM5.out]; exact ⟨_, _, _, _, _, _, _, _, _, _, _, _, _, _, _, _, _, _, _, _, _, _, _, _, _, _, _, _, _, _, _, _, _, _, _, _, _, _, _, _, _, _, _, _, _, _, _, _, _, _, _, _, _, _, _, _, _, _, _, _, _, _, _, rfl, by rfl, HB.out, BK.out⟩
  | true =>
   cases a0_7 with
   | false =>
    go_wp2
    show M5 _ _; rw [HM5.out]; exact ⟨_, _, _, _, _, _, _, _, _, _, _, _, _, _, _, _, _, _, _, _, _, _, _, _, _, _, _, _, _, _, _, _, _, _, _, _, _, _, _, _, _, _, _, _, _, _, _, _, _, _, _, _, _, _, _, _, _, _, _, _, _, _, _, rfl, by simp [*], HB.out, BK.out⟩
   | true =>
    go_wp2_with (go_at_call 56; refine (in_lit a0_0 [17, 27] (by decide) _ 3 w6 2 rfl rfl).mono ?_; rintro e w5 ⟨rfl, hb5⟩)
    show M5 _ _; rw [HM5.out]; exact ⟨_, _, _, _, _, _, _, _, _, _, _, _, _, _, _, _, _, _, _, _, _, _, _, _, _, _, _, _, _, _, _, _, _, _, _, _, _, _, _, _, _, _, _, _, _, _, _, _, _, _, _, _, _, _, _, _, _, _, _, _, _, _, _, rfl, by simp [*], below_step HB.out hb5, blk_below BK.out hb5⟩
 simp only [List.drop_succ_cons, List.drop_zero]
 intro a' w7 hm
 rw [HM5.out] at hm
 obtain ⟨u4, u5, u6, u7, u8, u9, u10, u11, u12, u13, u14, u15, u16, u17, u18, u19, u20, u21, u22, u23, u24, u25, u26, u27, u28, u29, u30, u31, u32, u33, u34, u35, u36, u37, u38, u39, u40, u41, u42, u43, u44, u45, u46, u47, u48, u49, u50, u51, u52, u53, u54, u55, u56, u57, u58, u59, u60, u61, u62, u63, u64, u65, p5, rfl, hp5, hb, hbox⟩ := hm
 clear HM5
 clear HB BK hc_0 hc_1 hc_2 hc_3 hc_4 hc_5 hc_6 hc_7 hc_8 hc_9
 have HB := Aside0.mk hb
 have BK := Aside0.mk hbox
 clear hb hbox
 have HP5 := Aside0.mk hp5
 clear hp5
 obtain ⟨hc_0, hc_1, hc_2, hc_3, hc_4, hc_5, hc_6, hc_7, hc_8, hc_9⟩ := cb10 BK.out
 obtain ⟨M6, hM6⟩ : ∃ M : Act → World → Prop, ∀ a' w', M a' w' = (∃ u4 u5 u6 u7 u8 u9 u10 u11 u12 u13 u14 u15 u16 u17 u18 u19 u20 u21 u22 u23 u24 u25 u26 u27 u28 u29 u30 u31 u32 u33 u34 u35 u36 u37 u38 u39 u40 u41 u42 u43 u44 u45 u46 u47 u48 u49 u50 u51 u52 u53 u54 u55 u56 u57 u58 u59 u60 u61 u62 u63 u64 u65 u66 u67 u68 u69 u70 u71 u72 u73 u74 u75 p, a' = { tmps := #[(.agg #[.int .i64 a0_0, .int .i64 a0_1, .bool a0_2, .int .i64 a0_3, .int .i64 a0_4, .int .i64 a0_5, .string a0_6, .bool a0_7, .slice A0_8 l0_8.length c0_8, .slice A0_9 l0_9.length c0_9] : Value), .pointer (some ⟨gb, 0, none⟩), .bool p, .int .i64 a0_0, u4, u5, u6, u7, u8, u9, u10, u11, u12, u13, u14, u15, u16, u17, u18, u19, u20, u21, u22, u23, u24, u25, u26, u27, u28, u29, u30, u31, u32, u33, u34, u35, u36, u37, u38, u39, u40, u41, u42, u43, u44, u45, u46, u47, u48, u49, u50, u51, u52, u53, u54, u55, u56, u57, u58, u59, u60, u61, u62, u63, u64, u65, u66, u67, u68, u69, u70, u71, u72, u73, u74, u75], defers := [] } ∧ p = (p5 && (((l0_8.length == 0)) || (a0_0 == 14))) ∧ Below w.heap.size w w' ∧ w'.heap[gb]? = some (.cells #[.int .i64 a0_0, .int .i64 a0_1, .bool a0_2, .int .i64 a0_3, .int .i64 a0_4, .int .i64 a0_5, .string a0_6, .bool a0_7, .slice A0_8 l0_8.length c0_8, .slice A0_9 l0_9.length c0_9] 28 (0, 0))) := ⟨fun a' w' => _, fun _ _ => rfl⟩
 have HM6 := Aside0.mk hM6
 clear hM6
 refine wpList_cut M6 10 _ _ _ ?_ ?_
 ·simp only [List.take_succ_cons, List.take_zero, List.drop_succ_cons, List.drop_zero]
  cases p5 with
  | false =>
   go_wp2
   show M6 _ _; rw [HM6.out]; exact ⟨_, _, _, _, _, _, _, _, _, _, _, _, _, _, _, _, _, _, _, _, _, _, _, _, _, _, _, _, _, _, _, _, _, _, _, _, _, _, _, _, _, _, _, _, _, _, _, _, _, _, _, _, _, _, _, _, _, _, _, _, _, _, _, _, _, _, _, _, _, _, _, _, _, rfl, by rfl, HB.out, BK.out⟩
  | true =>
   cases hA : (l0_8.length == 0) with
   | true =>
    have hA2 : ((l0_8.length : Int) == 0) = true := by rw [beq_iff_eq] at hA ⊢; omega
    go_wp2
    show M6 _ _; rw [HM6.out]; exact ⟨_, _, _, _, _, _, _, _, _, _, _, _, _, _, _, _, _, _, _, _, _, _, _, _, _, _, _, _, _, _, _, _, _, _, _, _, _, _, _, _, _, _, _, _, _, _, _, _, _, _, _, _, _, _, _, _, _, _, _, _, _, _, _, _, _, _, _, _, _, _, _, _, _, rfl, by simp [*], HB.out, BK.out⟩
   | false =>
    have hA2 : ((l0_8.length : Int) == 0) = false := by rw [beq_eq_false_iff_ne] at hA ⊢; omega
    cases hk : (a0_0 == 14) with
    | false =>
     go_wp2
     show M6 _ _; rw [HM6.out]; exact ⟨_, _, _, _, _, _, _, _, _, _, _, _, _, _, _, _, _, _, _, _, _, _, _, _, _, _, _, _, _, _, _, _, _, _, _, _, _, _, _, _, _, _, _, _, _, _, _, _, _, _, _, _, _, _, _, _, _, _, _, _, _, _, _, _, _, _, _, _, _, _, _, _, _, rfl, by simp [*], HB.out, BK.out⟩
    | true =>
     go_wp2
     show M6 _ _; rw [HM6.out]; exact ⟨_, _, _, _, _, _, _, _, _, _, _, _, _, _, _, _, _, _, _, _, _, _, _, _, _, _, _, _, _, _, _, _, _, _, _, _, _, _, _, _, _, _, _, _, _, _, _, _, _, _, _, _, _, _, _, _, _, _, _, _, _, _, _, _, _, _, _, _, _, _, _, _, _, rfl, by simp [*], HB.out, BK.out⟩
 simp only [List.drop_succ_cons, List.drop_zero]
 intro a' w8 hm
 rw [HM6.out] at hm
 obtain ⟨u4, u5, u6, u7, u8, u9, u10, u11, u12, u13, u14, u15, u16, u17, u18, u19, u20, u21, u22, u23, u24, u25, u26, u27, u28, u29, u30, u31, u32, u33, u34, u35, u36, u37, u38, u39, u40, u41, u42, u43, u44, u45, u46, u47, u48, u49, u50, u51, u52, u53, u54, u55, u56, u57, u58, u59, u60, u61, u62, u63, u64, u65, u66, u67, u68, u69, u70, u71, u72, u73, u74, u75, p6, rfl, hp6, hb, hbox⟩ := hm
 clear HM6
 clear HB BK hc_0 hc_1 hc_2 hc_3 hc_4 hc_5 hc_6 hc_7 hc_8 hc_9
 have HB := Aside0.mk hb
 have BK := Aside0.mk hbox
 clear hb hbox
 have HP6 := Aside0.mk hp6
 clear hp6
 go_wp2
 go_ret
 refine ⟨?_, HB.out⟩
 rw [← HF.out, HP6.out, HP5.out, HP4.out, HP3.out, HP2.out, HP1.out, HP0.out]
 rfl
end Go.Proofs.YteebgnhhjlgnjaaGreatDoor.V
