/- The law FnHalfCompared, walked. -/
import Derived.Test.YtmgpmmmoegjlbaaHN
import Derived.Test.YtmgpmmmoegjlbaaHK
namespace Go.Proofs.Ytmgpmmmoegjlbaa.V
open Go.RowKit Go.Proofs.YtmgpmmmoegjlbaaW.PrintWords Go.Proofs.YtmgpmmmoegjlbaaW.PrintLast Go.Proofs.YtmgpmmmoegjlbaaW.PrintMore
set_option linter.unusedVariables false
set_option linter.unusedSimpArgs false
set_option maxHeartbeats 4000000 in
theorem law2_main (A B : Int) (X Y : Nat) (o : Ordering) (w : World)
    (hU : ∀ w, Calls Try.prog 6 #[.int .u16 A] w fun x w' => x = .returned (.bool true) ∧ Below w.heap.size w w') (hU2 : ∀ w, Calls Try.prog 6 #[.int .u16 B] w fun x w' => x = .returned (.bool true) ∧ Below w.heap.size w w')
    (hX : ∀ w, Calls Try.prog 8 #[.int .u16 A] w fun x w' => x = .returned (.float .f64 X) ∧ Below w.heap.size w w') (hY : ∀ w, Calls Try.prog 8 #[.int .u16 B] w fun x w' => x = .returned (.float .f64 Y) ∧ Below w.heap.size w w')
    (hC : ∀ w, Calls Try.prog 9 #[.int .u16 A, .int .u16 B] w fun x w' => x = .returned (.agg #[.int .i64 (oi o), .bool (o == .eq), .bool (o == .lt), .bool (o == .lt || o == .eq), .bool (o == .gt), .bool (o == .gt || o == .eq)]) ∧ Below w.heap.size w w')
    (ho : FloatKind.f64.format.order X Y = some o) :
    Calls Try.prog 4 #[.int .u16 A, .int .u16 B] w fun x w' => x = .returned (.bool true) ∧ Below w.heap.size w w' := by
  cases o
  · have hC' : ∀ w, Calls Try.prog 9 #[.int .u16 A, .int .u16 B] w fun x w' => x = .returned (.agg #[.int .i64 (-1), .bool false, .bool true, .bool true, .bool false, .bool false]) ∧ Below w.heap.size w w' := hC
    clear hC
    go_enter Try.func4, Try.ntmps4
    go_wp2_with (first | (go_at_call 6; (with_reducible refine (hU _).mono ?_); rintro x w1 ⟨rfl, hb1⟩) | (go_at_call 6; (with_reducible refine (hU2 _).mono ?_); rintro x w2 ⟨rfl, hb2⟩) | (go_at_call 8; (with_reducible refine (hX _).mono ?_); rintro x w3 ⟨rfl, hb3⟩) | (go_at_call 8; (with_reducible refine (hY _).mono ?_); rintro x w4 ⟨rfl, hb4⟩) | (go_at_call 5; fail))
    refine wpAt ?_
    intro u0 hu0
    have B0 : u0.drew.heap[w4.heap.size]? = some (.cells #[.int .i64 (-1), .bool false, .bool true, .bool true, .bool false, .bool false] 30 (0, 0)) := by rw [hu0]; exact blk_drew_ (blk_new_at rfl)
    have hB : Below w.heap.size w u0.drew := by
      have g1 := hb1.size
      have g2 := hb2.size
      have g3 := hb3.size
      rw [hu0]
      exact below_drew (below_alloc (((hb1.trans (hb2.mono g1)).trans (hb3.mono (Nat.le_trans g1 g2))).trans (hb4.mono (Nat.le_trans (Nat.le_trans g1 g2) g3))) _)
    clear hu0 hb1 hb2 hb3 hb4 hU hU2 hX hY ho
    have d0 : u0.cell? ⟨w4.heap.size, 0, none⟩ = some (.int .i64 (-1)) := (blk_cell B0 0).trans rfl
    have d1 : u0.cell? ⟨w4.heap.size, 1, none⟩ = some (.bool false) := (blk_cell B0 1).trans rfl
    have d2 : u0.cell? ⟨w4.heap.size, 2, none⟩ = some (.bool true) := (blk_cell B0 2).trans rfl
    have d3 : u0.cell? ⟨w4.heap.size, 3, none⟩ = some (.bool true) := (blk_cell B0 3).trans rfl
    have d4 : u0.cell? ⟨w4.heap.size, 4, none⟩ = some (.bool false) := (blk_cell B0 4).trans rfl
    have d5 : u0.cell? ⟨w4.heap.size, 5, none⟩ = some (.bool false) := (blk_cell B0 5).trans rfl
    have HB0 := Lib.hid (And.intro B0 hB)
    clear B0 hB
    go_region_with (first | (go_at_call 5; (with_reducible refine (halves_ _).mono ?_); rintro x v1 ⟨rfl, hb5⟩; have HB1 := Lib.hid (And.intro (blk_below HB0.out.1 hb5) (HB0.out.2.trans (hb5.mono HB0.out.2.size))); clear hb5; have e0 : v1.cell? ⟨w4.heap.size, 0, none⟩ = some (.int .i64 (-1)) := (blk_cell HB1.out.1 0).trans rfl; have e1 : v1.cell? ⟨w4.heap.size, 1, none⟩ = some (.bool false) := (blk_cell HB1.out.1 1).trans rfl; have e2 : v1.cell? ⟨w4.heap.size, 2, none⟩ = some (.bool true) := (blk_cell HB1.out.1 2).trans rfl; have e3 : v1.cell? ⟨w4.heap.size, 3, none⟩ = some (.bool true) := (blk_cell HB1.out.1 3).trans rfl; have e4 : v1.cell? ⟨w4.heap.size, 4, none⟩ = some (.bool false) := (blk_cell HB1.out.1 4).trans rfl; have e5 : v1.cell? ⟨w4.heap.size, 5, none⟩ = some (.bool false) := (blk_cell HB1.out.1 5).trans rfl) | (go_at_call 9; (with_reducible refine (hC' _).mono ?_); rintro x v2 ⟨rfl, hb6⟩; have HB2 := Lib.hid (And.intro (blk_below HB1.out.1 hb6) (HB1.out.2.trans (hb6.mono HB1.out.2.size))); clear hb6; have f0 : v2.cell? ⟨w4.heap.size, 0, none⟩ = some (.int .i64 (-1)) := (blk_cell HB2.out.1 0).trans rfl; have f1 : v2.cell? ⟨w4.heap.size, 1, none⟩ = some (.bool false) := (blk_cell HB2.out.1 1).trans rfl; have f2 : v2.cell? ⟨w4.heap.size, 2, none⟩ = some (.bool true) := (blk_cell HB2.out.1 2).trans rfl; have f3 : v2.cell? ⟨w4.heap.size, 3, none⟩ = some (.bool true) := (blk_cell HB2.out.1 3).trans rfl; have f4 : v2.cell? ⟨w4.heap.size, 4, none⟩ = some (.bool false) := (blk_cell HB2.out.1 4).trans rfl; have f5 : v2.cell? ⟨w4.heap.size, 5, none⟩ = some (.bool false) := (blk_cell HB2.out.1 5).trans rfl))
    all_goals go_wp2_with (fail)
    all_goals
      go_ret
      exact ⟨rfl, HB2.out.2⟩
  · have hC' : ∀ w, Calls Try.prog 9 #[.int .u16 A, .int .u16 B] w fun x w' => x = .returned (.agg #[.int .i64 (0), .bool true, .bool false, .bool true, .bool false, .bool true]) ∧ Below w.heap.size w w' := hC
    clear hC
    go_enter Try.func4, Try.ntmps4
    go_wp2_with (first | (go_at_call 6; (with_reducible refine (hU _).mono ?_); rintro x w1 ⟨rfl, hb1⟩) | (go_at_call 6; (with_reducible refine (hU2 _).mono ?_); rintro x w2 ⟨rfl, hb2⟩) | (go_at_call 8; (with_reducible refine (hX _).mono ?_); rintro x w3 ⟨rfl, hb3⟩) | (go_at_call 8; (with_reducible refine (hY _).mono ?_); rintro x w4 ⟨rfl, hb4⟩) | (go_at_call 5; fail))
    refine wpAt ?_
    intro u0 hu0
    have B0 : u0.drew.heap[w4.heap.size]? = some (.cells #[.int .i64 (0), .bool true, .bool false, .bool true, .bool false, .bool true] 30 (0, 0)) := by rw [hu0]; exact blk_drew_ (blk_new_at rfl)
    have hB : Below w.heap.size w u0.drew := by
      have g1 := hb1.size
      have g2 := hb2.size
      have g3 := hb3.size
      rw [hu0]
      exact below_drew (below_alloc (((hb1.trans (hb2.mono g1)).trans (hb3.mono (Nat.le_trans g1 g2))).trans (hb4.mono (Nat.le_trans (Nat.le_trans g1 g2) g3))) _)
    clear hu0 hb1 hb2 hb3 hb4 hU hU2 hX hY ho
    have d0 : u0.cell? ⟨w4.heap.size, 0, none⟩ = some (.int .i64 (0)) := (blk_cell B0 0).trans rfl
    have d1 : u0.cell? ⟨w4.heap.size, 1, none⟩ = some (.bool true) := (blk_cell B0 1).trans rfl
    have d2 : u0.cell? ⟨w4.heap.size, 2, none⟩ = some (.bool false) := (blk_cell B0 2).trans rfl
    have d3 : u0.cell? ⟨w4.heap.size, 3, none⟩ = some (.bool true) := (blk_cell B0 3).trans rfl
    have d4 : u0.cell? ⟨w4.heap.size, 4, none⟩ = some (.bool false) := (blk_cell B0 4).trans rfl
    have d5 : u0.cell? ⟨w4.heap.size, 5, none⟩ = some (.bool true) := (blk_cell B0 5).trans rfl
    have HB0 := Lib.hid (And.intro B0 hB)
    clear B0 hB
    go_region_with (first | (go_at_call 5; (with_reducible refine (halves_ _).mono ?_); rintro x v1 ⟨rfl, hb5⟩; have HB1 := Lib.hid (And.intro (blk_below HB0.out.1 hb5) (HB0.out.2.trans (hb5.mono HB0.out.2.size))); clear hb5; have e0 : v1.cell? ⟨w4.heap.size, 0, none⟩ = some (.int .i64 (0)) := (blk_cell HB1.out.1 0).trans rfl; have e1 : v1.cell? ⟨w4.heap.size, 1, none⟩ = some (.bool true) := (blk_cell HB1.out.1 1).trans rfl; have e2 : v1.cell? ⟨w4.heap.size, 2, none⟩ = some (.bool false) := (blk_cell HB1.out.1 2).trans rfl; have e3 : v1.cell? ⟨w4.heap.size, 3, none⟩ = some (.bool true) := (blk_cell HB1.out.1 3).trans rfl; have e4 : v1.cell? ⟨w4.heap.size, 4, none⟩ = some (.bool false) := (blk_cell HB1.out.1 4).trans rfl; have e5 : v1.cell? ⟨w4.heap.size, 5, none⟩ = some (.bool true) := (blk_cell HB1.out.1 5).trans rfl) | (go_at_call 9; (with_reducible refine (hC' _).mono ?_); rintro x v2 ⟨rfl, hb6⟩; have HB2 := Lib.hid (And.intro (blk_below HB1.out.1 hb6) (HB1.out.2.trans (hb6.mono HB1.out.2.size))); clear hb6; have f0 : v2.cell? ⟨w4.heap.size, 0, none⟩ = some (.int .i64 (0)) := (blk_cell HB2.out.1 0).trans rfl; have f1 : v2.cell? ⟨w4.heap.size, 1, none⟩ = some (.bool true) := (blk_cell HB2.out.1 1).trans rfl; have f2 : v2.cell? ⟨w4.heap.size, 2, none⟩ = some (.bool false) := (blk_cell HB2.out.1 2).trans rfl; have f3 : v2.cell? ⟨w4.heap.size, 3, none⟩ = some (.bool true) := (blk_cell HB2.out.1 3).trans rfl; have f4 : v2.cell? ⟨w4.heap.size, 4, none⟩ = some (.bool false) := (blk_cell HB2.out.1 4).trans rfl; have f5 : v2.cell? ⟨w4.heap.size, 5, none⟩ = some (.bool true) := (blk_cell HB2.out.1 5).trans rfl))
    all_goals go_wp2_with (fail)
    all_goals
      go_ret
      exact ⟨rfl, HB2.out.2⟩
  · have hC' : ∀ w, Calls Try.prog 9 #[.int .u16 A, .int .u16 B] w fun x w' => x = .returned (.agg #[.int .i64 (1), .bool false, .bool false, .bool false, .bool true, .bool true]) ∧ Below w.heap.size w w' := hC
    clear hC
    go_enter Try.func4, Try.ntmps4
    go_wp2_with (first | (go_at_call 6; (with_reducible refine (hU _).mono ?_); rintro x w1 ⟨rfl, hb1⟩) | (go_at_call 6; (with_reducible refine (hU2 _).mono ?_); rintro x w2 ⟨rfl, hb2⟩) | (go_at_call 8; (with_reducible refine (hX _).mono ?_); rintro x w3 ⟨rfl, hb3⟩) | (go_at_call 8; (with_reducible refine (hY _).mono ?_); rintro x w4 ⟨rfl, hb4⟩) | (go_at_call 5; fail))
    refine wpAt ?_
    intro u0 hu0
    have B0 : u0.drew.heap[w4.heap.size]? = some (.cells #[.int .i64 (1), .bool false, .bool false, .bool false, .bool true, .bool true] 30 (0, 0)) := by rw [hu0]; exact blk_drew_ (blk_new_at rfl)
    have hB : Below w.heap.size w u0.drew := by
      have g1 := hb1.size
      have g2 := hb2.size
      have g3 := hb3.size
      rw [hu0]
      exact below_drew (below_alloc (((hb1.trans (hb2.mono g1)).trans (hb3.mono (Nat.le_trans g1 g2))).trans (hb4.mono (Nat.le_trans (Nat.le_trans g1 g2) g3))) _)
    clear hu0 hb1 hb2 hb3 hb4 hU hU2 hX hY ho
    have d0 : u0.cell? ⟨w4.heap.size, 0, none⟩ = some (.int .i64 (1)) := (blk_cell B0 0).trans rfl
    have d1 : u0.cell? ⟨w4.heap.size, 1, none⟩ = some (.bool false) := (blk_cell B0 1).trans rfl
    have d2 : u0.cell? ⟨w4.heap.size, 2, none⟩ = some (.bool false) := (blk_cell B0 2).trans rfl
    have d3 : u0.cell? ⟨w4.heap.size, 3, none⟩ = some (.bool false) := (blk_cell B0 3).trans rfl
    have d4 : u0.cell? ⟨w4.heap.size, 4, none⟩ = some (.bool true) := (blk_cell B0 4).trans rfl
    have d5 : u0.cell? ⟨w4.heap.size, 5, none⟩ = some (.bool true) := (blk_cell B0 5).trans rfl
    have HB0 := Lib.hid (And.intro B0 hB)
    clear B0 hB
    go_region_with (first | (go_at_call 5; (with_reducible refine (halves_ _).mono ?_); rintro x v1 ⟨rfl, hb5⟩; have HB1 := Lib.hid (And.intro (blk_below HB0.out.1 hb5) (HB0.out.2.trans (hb5.mono HB0.out.2.size))); clear hb5; have e0 : v1.cell? ⟨w4.heap.size, 0, none⟩ = some (.int .i64 (1)) := (blk_cell HB1.out.1 0).trans rfl; have e1 : v1.cell? ⟨w4.heap.size, 1, none⟩ = some (.bool false) := (blk_cell HB1.out.1 1).trans rfl; have e2 : v1.cell? ⟨w4.heap.size, 2, none⟩ = some (.bool false) := (blk_cell HB1.out.1 2).trans rfl; have e3 : v1.cell? ⟨w4.heap.size, 3, none⟩ = some (.bool false) := (blk_cell HB1.out.1 3).trans rfl; have e4 : v1.cell? ⟨w4.heap.size, 4, none⟩ = some (.bool true) := (blk_cell HB1.out.1 4).trans rfl; have e5 : v1.cell? ⟨w4.heap.size, 5, none⟩ = some (.bool true) := (blk_cell HB1.out.1 5).trans rfl) | (go_at_call 9; (with_reducible refine (hC' _).mono ?_); rintro x v2 ⟨rfl, hb6⟩; have HB2 := Lib.hid (And.intro (blk_below HB1.out.1 hb6) (HB1.out.2.trans (hb6.mono HB1.out.2.size))); clear hb6; have f0 : v2.cell? ⟨w4.heap.size, 0, none⟩ = some (.int .i64 (1)) := (blk_cell HB2.out.1 0).trans rfl; have f1 : v2.cell? ⟨w4.heap.size, 1, none⟩ = some (.bool false) := (blk_cell HB2.out.1 1).trans rfl; have f2 : v2.cell? ⟨w4.heap.size, 2, none⟩ = some (.bool false) := (blk_cell HB2.out.1 2).trans rfl; have f3 : v2.cell? ⟨w4.heap.size, 3, none⟩ = some (.bool false) := (blk_cell HB2.out.1 3).trans rfl; have f4 : v2.cell? ⟨w4.heap.size, 4, none⟩ = some (.bool true) := (blk_cell HB2.out.1 4).trans rfl; have f5 : v2.cell? ⟨w4.heap.size, 5, none⟩ = some (.bool true) := (blk_cell HB2.out.1 5).trans rfl))
    all_goals go_wp2_with (fail)
    all_goals
      go_ret
      exact ⟨rfl, HB2.out.2⟩
end Go.Proofs.Ytmgpmmmoegjlbaa.V
