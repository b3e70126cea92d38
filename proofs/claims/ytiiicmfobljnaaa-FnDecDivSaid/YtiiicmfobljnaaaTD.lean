/- The walks of impl.DecDiv at 32 and 64 bits. -/
import Derived.Test.YtiiicmfobljnaaaTW
namespace Go.Proofs.Ytiiicmfobljnaaa.V
open Go.RowKit Go.Proofs.YtiiicmfobljnaaaW.PrintWords Go.Proofs.YtiiicmfobljnaaaW.PrintLast Go.Proofs.YtiiicmfobljnaaaW.PrintMore
set_option maxHeartbeats 8000000 in
set_option maxRecDepth 100000 in
theorem decDiv64 (ad1 ad2 : Addr) (c1 c2 : Nat) (x y : Int) (w : World) (h1 : w.cell? ad1 = some (.int .u64 x)) (h2 : w.cell? ad2 = some (.int .u64 y)) (hy : wrap64 y ≠ 0) :
    Calls Try.prog 7 #[.int .i64 64, .slice (some ad1) 1 c1, .slice (some ad2) 1 c2] w fun e w' => ∃ v1 v2, e = .returned (.tuple #[v1, v2, .bool true]) ∧ Kd.R (Kd.int .u64) 25 w' w.heap.size (fun k_ => w.heap.size ≤ k_) v1 [IntKind.u64.wrap (wrap64 ((wrap64 x).tdiv (wrap64 y)))] ∧ Kd.R (Kd.int .u64) 25 w' w.heap.size (fun k_ => w.heap.size ≤ k_) v2 [IntKind.u64.wrap ((wrap64 x).tmod (wrap64 y))] ∧ Below w.heap.size w w' := by
  have hmf : ∀ (fn : Fn) (first cap : Array Value) (w : World), (Instr.makeFunc fn first cap).run Try.prog w = .ok (.func fn first cap) w := fun _ _ _ _ => rfl
  go_enter_defers Try.func7, Try.ntmps7
  go_wp2_with (go_at_call 23; fail)
  clear hmf
  refine calls_at ?_
  intro w0 hw0
  have B6_0 : w0.heap[w.heap.size]? = some (.cells #[.slice none 0 0] 22 (0, 0)) := by
    rw [hw0]; repeat (first | exact rfl | (refine blk_new_at ?_; solve | simp) | refine blk_alloc_ ?_ | refine blk_drew_ ?_ | (refine blk_other_ ?_ ?_; · omega))
  have B7_0 : w0.heap[w.heap.size + 1]? = some (.cells #[.slice none 0 0] 22 (0, 0)) := by
    rw [hw0]; repeat (first | exact rfl | (refine blk_new_at ?_; solve | simp) | refine blk_alloc_ ?_ | refine blk_drew_ ?_ | (refine blk_other_ ?_ ?_; · omega))
  have B8_0 : w0.heap[w.heap.size + 1 + 1]? = some (.cells #[.bool false] 4 (0, 0)) := by
    rw [hw0]; repeat (first | exact rfl | (refine blk_new_at ?_; solve | simp) | refine blk_alloc_ ?_ | refine blk_drew_ ?_ | (refine blk_other_ ?_ ?_; · omega))
  have hb0 : Below w.heap.size w w0 := by rw [hw0]; exact below_alloc (below_alloc (below_alloc (Below.refl _ _) _) _) _
  have z0_0 : w.heap.size + 3 ≤ w0.heap.size := by rw [hw0]; simp; try omega
  clear hw0
  have h1_0 := keep hb0 h1
  have h2_0 := keep hb0 h2
  refine (decOf64 ad1 c1 x w0 h1_0).mono ?_
  rintro e w1 ⟨rfl, hb_⟩
  have h2_1 := keep hb_ h2_0
  clear h1_0 h2_0 h1 h2
  have B6_1 := blk_below B6_0 hb_
  have B7_1 := blk_below B7_0 hb_
  have B8_1 := blk_below B8_0 hb_
  clear B6_0 B7_0 B8_0
  have HB1 := Lib.hid (hb0.trans (hb_.mono hb0.size))
  have z1_0 : w.heap.size + 3 ≤ w1.heap.size := Nat.le_trans z0_0 hb_.size
  clear hb_ hb0
  go_wp2_with (go_at_call 23; fail)
  refine calls_at ?_
  intro w2 hw2
  have B6_2 : w2.heap[w.heap.size]? = some (.cells #[.slice none 0 0] 22 (0, 0)) := by
    rw [hw2]; repeat (first | exact B6_1 | (refine blk_new_at ?_; solve | simp) | refine blk_alloc_ ?_ | refine blk_drew_ ?_ | (refine blk_other_ ?_ ?_; · omega))
  have B7_2 : w2.heap[w.heap.size + 1]? = some (.cells #[.slice none 0 0] 22 (0, 0)) := by
    rw [hw2]; repeat (first | exact B7_1 | (refine blk_new_at ?_; solve | simp) | refine blk_alloc_ ?_ | refine blk_drew_ ?_ | (refine blk_other_ ?_ ?_; · omega))
  have B8_2 : w2.heap[w.heap.size + 1 + 1]? = some (.cells #[.bool false] 4 (0, 0)) := by
    rw [hw2]; repeat (first | exact B8_1 | (refine blk_new_at ?_; solve | simp) | refine blk_alloc_ ?_ | refine blk_drew_ ?_ | (refine blk_other_ ?_ ?_; · omega))
  have BX_2 : w2.heap[w1.heap.size]? = some (.cells #[.int .i64 64, .int .i32 0, .int .i64 (wrap64 x), .int .u64 0, .int .i64 0, .int .u64 0, .int .u64 0, .int .u64 0, .int .u64 0] 62 (0, 0)) := by
    rw [hw2]; repeat (first | exact rfl | (refine blk_new_at ?_; solve | simp) | refine blk_alloc_ ?_ | refine blk_drew_ ?_ | (refine blk_other_ ?_ ?_; · omega))
  have hb2 : Below w.heap.size w w2 := by rw [hw2]; exact below_alloc HB1.out _
  have z2_0 : w1.heap.size + 1 ≤ w2.heap.size := by rw [hw2]; simp; try omega
  have h2_2 : w2.cell? ad2 = some (.int .u64 y) := by rw [hw2]; exact keep (below_alloc (Below.refl _ _) _) h2_1
  clear hw2 h2_1
  clear B6_1 B7_1 B8_1 HB1
  refine (decOf64 ad2 c2 y w2 h2_2).mono ?_
  rintro e w3 ⟨rfl, hb_⟩
  clear h2_2
  have B6_3 := blk_below B6_2 hb_
  have B7_3 := blk_below B7_2 hb_
  have B8_3 := blk_below B8_2 hb_
  have BX_3 := blk_below BX_2 hb_
  clear B6_2 B7_2 B8_2 BX_2
  have HB3 := Lib.hid (hb2.trans (hb_.mono hb2.size))
  have z3_0 : w1.heap.size + 1 ≤ w3.heap.size := Nat.le_trans z2_0 hb_.size
  clear hb_ hb2
  have cBX2 := alloced (show w3.cell? ⟨w1.heap.size, 2, none⟩ = some (.int .i64 (wrap64 x)) from (blk_cell BX_3 2).trans rfl)
  have fcBX2 := alloced_f (show w3.cell? ⟨w1.heap.size, 2, none⟩ = some (.int .i64 (wrap64 x)) from (blk_cell BX_3 2).trans rfl) (blk_frozen BX_3 2)
  go_wp2_with (go_at_call 25; fail)
  clear cBX2 fcBX2
  clear BX_3
  refine calls_at ?_
  intro w4 hw4
  have B6_4 : w4.heap[w.heap.size]? = some (.cells #[.slice none 0 0] 22 (0, 0)) := by
    rw [hw4]; repeat (first | exact B6_3 | (refine blk_new_at ?_; solve | simp) | refine blk_alloc_ ?_ | refine blk_drew_ ?_ | (refine blk_other_ ?_ ?_; · omega))
  have B7_4 : w4.heap[w.heap.size + 1]? = some (.cells #[.slice none 0 0] 22 (0, 0)) := by
    rw [hw4]; repeat (first | exact B7_3 | (refine blk_new_at ?_; solve | simp) | refine blk_alloc_ ?_ | refine blk_drew_ ?_ | (refine blk_other_ ?_ ?_; · omega))
  have B8_4 : w4.heap[w.heap.size + 1 + 1]? = some (.cells #[.bool false] 4 (0, 0)) := by
    rw [hw4]; repeat (first | exact B8_3 | (refine blk_new_at ?_; solve | simp) | refine blk_alloc_ ?_ | refine blk_drew_ ?_ | (refine blk_other_ ?_ ?_; · omega))
  have BS_4 : w4.heap[w3.heap.size + 1]? = some (.cells #[.int .i64 64, .int .i32 0, .int .i64 0, .int .u64 0, .int .i64 0, .int .u64 0, .int .u64 0, .int .u64 0, .int .u64 0] 62 (0, 0)) := by
    rw [hw4]; repeat (first | exact rfl | (refine blk_new_at ?_; solve | simp) | refine blk_alloc_ ?_ | refine blk_drew_ ?_ | (refine blk_other_ ?_ ?_; · omega))
  have BT_4 : w4.heap[w3.heap.size + 1 + 1]? = some (.cells #[.int .i64 64, .int .i32 0, .int .i64 0, .int .u64 0, .int .i64 0, .int .u64 0, .int .u64 0, .int .u64 0, .int .u64 0] 62 (0, 0)) := by
    rw [hw4]; repeat (first | exact rfl | (refine blk_new_at ?_; solve | simp) | refine blk_alloc_ ?_ | refine blk_drew_ ?_ | (refine blk_other_ ?_ ?_; · omega))
  have hb4 : Below w.heap.size w w4 := by rw [hw4]; exact below_alloc (below_alloc (below_alloc HB3.out _) _) _
  have z4_0 : w3.heap.size + 3 ≤ w4.heap.size := by rw [hw4]; simp; try omega
  clear hw4
  clear B6_3 B7_3 B8_3 HB3
  refine (decimal_Decimal64_Div.calls (wrap64 x) (wrap64 y) (wrap64 (Int.tdiv (wrap64 x) (wrap64 y))) (Int.tmod (wrap64 x) (wrap64 y)) w4 (if_neg hy)).mono ?_
  rintro e w5 ⟨rfl, hd⟩
  have hb_ := drawn_below hd
  clear hd
  have B6_5 := blk_below B6_4 hb_
  have B7_5 := blk_below B7_4 hb_
  have B8_5 := blk_below B8_4 hb_
  have BS_5 := blk_below BS_4 hb_
  have BT_5 := blk_below BT_4 hb_
  clear B6_4 B7_4 B8_4 BS_4 BT_4
  have HB5 := Lib.hid (hb4.trans (hb_.mono hb4.size))
  have z5_0 : w3.heap.size + 3 ≤ w5.heap.size := Nat.le_trans z4_0 hb_.size
  clear hb_ hb4
  have cBS2 : w5.cell? ⟨w3.heap.size + 1, 2, none⟩ = some (.int .i64 0) := (blk_cell BS_5 2).trans rfl
  have fcBS2 := blk_frozen BS_5 2
  have cBT2 : w5.cell? ⟨w3.heap.size + 1 + 1, 2, none⟩ = some (.int .i64 0) := (blk_cell BT_5 2).trans rfl
  have fcBT2 := blk_frozen BT_5 2
  go_wp2_with (go_at_call 26; fail)
  refine wp_at ?_
  intro w6 hw6
  have B6_6 : w6.drew.heap[w.heap.size]? = some (.cells #[.slice none 0 0] 22 (0, 0)) := by
    rw [hw6]; repeat (first | exact B6_5 | (refine blk_new_at ?_; solve | simp) | refine blk_alloc_ ?_ | refine blk_drew_ ?_ | (refine blk_other_ ?_ ?_; · omega))
  have B7_6 : w6.drew.heap[w.heap.size + 1]? = some (.cells #[.slice none 0 0] 22 (0, 0)) := by
    rw [hw6]; repeat (first | exact B7_5 | (refine blk_new_at ?_; solve | simp) | refine blk_alloc_ ?_ | refine blk_drew_ ?_ | (refine blk_other_ ?_ ?_; · omega))
  have B8_6 : w6.drew.heap[w.heap.size + 1 + 1]? = some (.cells #[.bool false] 4 (0, 0)) := by
    rw [hw6]; repeat (first | exact B8_5 | (refine blk_new_at ?_; solve | simp) | refine blk_alloc_ ?_ | refine blk_drew_ ?_ | (refine blk_other_ ?_ ?_; · omega))
  have BS_6 : w6.drew.heap[w3.heap.size + 1]? = some (.cells #[.int .i64 64, .int .i32 0, .int .i64 (wrap64 (Int.tdiv (wrap64 x) (wrap64 y))), .int .u64 0, .int .i64 0, .int .u64 0, .int .u64 0, .int .u64 0, .int .u64 0] 62 (0, 0)) := by
    rw [hw6]; repeat (first | exact BS_5 | (refine blk_new_at ?_; solve | simp) | refine blk_alloc_ ?_ | refine blk_drew_ ?_ | refine blk_put_at (cs := #[.int .i64 64, .int .i32 0, .int .i64 0, .int .u64 0, .int .i64 0, .int .u64 0, .int .u64 0, .int .u64 0, .int .u64 0]) (i := 2) ?_ rfl | (refine blk_other_ ?_ ?_; · omega))
  have BT_6 : w6.drew.heap[w3.heap.size + 1 + 1]? = some (.cells #[.int .i64 64, .int .i32 0, .int .i64 (Int.tmod (wrap64 x) (wrap64 y)), .int .u64 0, .int .i64 0, .int .u64 0, .int .u64 0, .int .u64 0, .int .u64 0] 62 (0, 0)) := by
    rw [hw6]; repeat (first | exact BT_5 | (refine blk_new_at ?_; solve | simp) | refine blk_alloc_ ?_ | refine blk_drew_ ?_ | refine blk_put_at (cs := #[.int .i64 64, .int .i32 0, .int .i64 0, .int .u64 0, .int .i64 0, .int .u64 0, .int .u64 0, .int .u64 0, .int .u64 0]) (i := 2) ?_ rfl | (refine blk_other_ ?_ ?_; · omega))
  have hb6 : Below w.heap.size w w6.drew := by rw [hw6]; exact below_drew (below_set (below_set HB5.out (by omega)) (by omega))
  clear hw6
  clear cBS2 fcBS2 cBT2 fcBT2
  clear B6_5 B7_5 B8_5 BS_5 BT_5 HB5
  have nz : w.heap.size + 3 ≤ w3.heap.size := by omega
  clear z0_0 z1_0 z2_0 z3_0 z4_0
  refine wp_region_noPanic ?_
  refine start_ (n := 7) (S := fun w' => w'.heap[w3.heap.size + 1]? = some (.cells #[.int .i64 64, .int .i32 0, .int .i64 (wrap64 (Int.tdiv (wrap64 x) (wrap64 y))), .int .u64 0, .int .i64 0, .int .u64 0, .int .u64 0, .int .u64 0, .int .u64 0] 62 (0, 0)) ∧ w'.heap[w3.heap.size + 1 + 1]? = some (.cells #[.int .i64 64, .int .i32 0, .int .i64 (Int.tmod (wrap64 x) (wrap64 y)), .int .u64 0, .int .i64 0, .int .u64 0, .int .u64 0, .int .u64 0, .int .u64 0] 62 (0, 0))) (ds := []) #[false, false, false, false, false, false, false] (by kernel_rfl) rfl rfl ⟨BS_6, BT_6⟩ (fun hHeld => ?_)
  generalize w6.drew = w7 at *
  have B6_7 := B6_6
  clear B6_6
  have B7_7 := B7_6
  clear B7_6
  have B8_7 := B8_6
  clear B8_6
  have Z7 := blk_lt B8_7
  have BS_7 := BS_6
  clear BS_6
  have BT_7 := BT_6
  clear BT_6
  refine take_ (i := 0) (N := some 63) (v := ?_) (a' := ?_) #[true, false, false, false, false, false, false] rfl rfl (by kernel_rfl) (fun _ _ _ h => h) (Or.inl ⟨by rfl, ?_⟩) hHeld ?_ ?_
  rotate_left
  · intro w' s0
    have d0 : w'.cell? ⟨w3.heap.size + 1, 0, none⟩ = some (.int .i64 64) := (blk_cell s0.1 0).trans rfl
    have d1 : w'.cell? ⟨w3.heap.size + 1, 1, none⟩ = some (.int .i32 0) := (blk_cell s0.1 1).trans rfl
    have d2 : w'.cell? ⟨w3.heap.size + 1, 2, none⟩ = some (.int .i64 (wrap64 (Int.tdiv (wrap64 x) (wrap64 y)))) := (blk_cell s0.1 2).trans rfl
    have d3 : w'.cell? ⟨w3.heap.size + 1, 3, none⟩ = some (.int .u64 0) := (blk_cell s0.1 3).trans rfl
    have d4 : w'.cell? ⟨w3.heap.size + 1, 4, none⟩ = some (.int .i64 0) := (blk_cell s0.1 4).trans rfl
    have d5 : w'.cell? ⟨w3.heap.size + 1, 5, none⟩ = some (.int .u64 0) := (blk_cell s0.1 5).trans rfl
    have d6 : w'.cell? ⟨w3.heap.size + 1, 6, none⟩ = some (.int .u64 0) := (blk_cell s0.1 6).trans rfl
    have d7 : w'.cell? ⟨w3.heap.size + 1, 7, none⟩ = some (.int .u64 0) := (blk_cell s0.1 7).trans rfl
    have d8 : w'.cell? ⟨w3.heap.size + 1, 8, none⟩ = some (.int .u64 0) := (blk_cell s0.1 8).trans rfl
    clear s0
    go_simp
    with_reducible rfl
  rotate_left
  · simp only [Act.put, s1_, s2_, s3_]
    rfl
  refine take_ (i := 2) (N := some 65) (v := ?_) (a' := ?_) #[true, false, true, false, false, false, false] rfl rfl (by kernel_rfl) (fun _ _ _ h => h) (Or.inl ⟨by rfl, ?_⟩) hHeld ?_ ?_
  rotate_left
  · intro w' s0
    have d0 : w'.cell? ⟨w3.heap.size + 1 + 1, 0, none⟩ = some (.int .i64 64) := (blk_cell s0.2 0).trans rfl
    have d1 : w'.cell? ⟨w3.heap.size + 1 + 1, 1, none⟩ = some (.int .i32 0) := (blk_cell s0.2 1).trans rfl
    have d2 : w'.cell? ⟨w3.heap.size + 1 + 1, 2, none⟩ = some (.int .i64 (Int.tmod (wrap64 x) (wrap64 y))) := (blk_cell s0.2 2).trans rfl
    have d3 : w'.cell? ⟨w3.heap.size + 1 + 1, 3, none⟩ = some (.int .u64 0) := (blk_cell s0.2 3).trans rfl
    have d4 : w'.cell? ⟨w3.heap.size + 1 + 1, 4, none⟩ = some (.int .i64 0) := (blk_cell s0.2 4).trans rfl
    have d5 : w'.cell? ⟨w3.heap.size + 1 + 1, 5, none⟩ = some (.int .u64 0) := (blk_cell s0.2 5).trans rfl
    have d6 : w'.cell? ⟨w3.heap.size + 1 + 1, 6, none⟩ = some (.int .u64 0) := (blk_cell s0.2 6).trans rfl
    have d7 : w'.cell? ⟨w3.heap.size + 1 + 1, 7, none⟩ = some (.int .u64 0) := (blk_cell s0.2 7).trans rfl
    have d8 : w'.cell? ⟨w3.heap.size + 1 + 1, 8, none⟩ = some (.int .u64 0) := (blk_cell s0.2 8).trans rfl
    clear s0
    go_simp
    with_reducible rfl
  rotate_left
  · simp only [Act.put, s1_, s2_, s3_]
    rfl
  refine one_ (i := 1) (N := some 64) #[true, true, true, false, false, false, false] rfl rfl (by kernel_rfl) (by decide) (fun K hK => ?_)
  refine goes_ Try.func26 (by kernel_rfl) rfl #[.agg #[.int .i64 64, .int .i32 0, .int .i64 (wrap64 (Int.tdiv (wrap64 x) (wrap64 y))), .int .u64 0, .int .i64 0, .int .u64 0, .int .u64 0, .int .u64 0, .int .u64 0]] (by rfl) rfl rfl (by (try simp only [List.map_toArray, List.map_cons, List.map_nil]); rfl) ?_
  refine (words64 (wrap64 (Int.tdiv (wrap64 x) (wrap64 y))) 0 0 0 0 0 0 0 w7).mono ?_
  rintro e w8 ⟨v1, rfl, hR1, hb_⟩
  obtain ⟨Av1, cv1, rfl⟩ := Kd.R_slice hR1
  refine ⟨_, rfl, ?_⟩
  have B6_8 := blk_below B6_7 hb_
  have B7_8 := blk_below B7_7 hb_
  have B8_8 := blk_below B8_7 hb_
  have BS_8 := blk_below BS_7 hb_
  have BT_8 := blk_below BT_7 hb_
  have hs8 := hb_.size
  have hb8 := hb6.trans (hb_.mono hb6.size)
  refine hK.out _ _ ⟨BS_8, BT_8⟩ (fun hHeld => ?_)
  clear hK K hb_
  refine norm_ (a' := ?_) ?_ ?_
  rotate_left
  · show Act.put _ (some 64) _ = _
    simp only [Act.put, s1_, s2_, s3_]
    rfl
  refine one_ (i := 3) (N := some 66) #[true, true, true, true, false, false, false] rfl rfl (by kernel_rfl) (by decide) (fun K hK => ?_)
  refine goes_ Try.func26 (by kernel_rfl) rfl #[.agg #[.int .i64 64, .int .i32 0, .int .i64 (Int.tmod (wrap64 x) (wrap64 y)), .int .u64 0, .int .i64 0, .int .u64 0, .int .u64 0, .int .u64 0, .int .u64 0]] (by rfl) rfl rfl (by (try simp only [List.map_toArray, List.map_cons, List.map_nil]); rfl) ?_
  refine (words64 (Int.tmod (wrap64 x) (wrap64 y)) 0 0 0 0 0 0 0 w8).mono ?_
  rintro e w9 ⟨v2, rfl, hR2, hb_⟩
  obtain ⟨Av2, cv2, rfl⟩ := Kd.R_slice hR2
  refine ⟨_, rfl, ?_⟩
  have B6_9 := blk_below B6_8 hb_
  have B7_9 := blk_below B7_8 hb_
  have B8_9 := blk_below B8_8 hb_
  have BS_9 := blk_below BS_8 hb_
  have BT_9 := blk_below BT_8 hb_
  have hs9 := hb_.size
  have hb9 := hb8.trans (hb_.mono hb8.size)
  have hR1' := Kd.R_below hR1 hb_
  refine hK.out _ _ ⟨BS_9, BT_9⟩ (fun hHeld => ?_)
  clear hK K hb_
  refine norm_ (a' := ?_) ?_ ?_
  rotate_left
  · show Act.put _ (some 66) _ = _
    simp only [Act.put, s1_, s2_, s3_]
    rfl
  have l6 : w.heap.size + 1 + 1 < w7.heap.size := Z7
  have l9 : w7.heap.size ≤ w9.heap.size := Nat.le_trans hs8 hs9
  have b3 : w3.heap.size = w3.heap.size := rfl
  refine one_ (i := 4) (N := none) #[true, true, true, true, true, false, false] rfl rfl (by kernel_rfl) (by decide) (fun K hK => ?_)
  have k0 := B6_9
  have hs := (blk_cell k0 0).trans (show _ = some (Value.slice none 0 0) from rfl)
  have hfs := blk_frozen k0 0
  clear hHeld
  refine skip_ (w1 := ?_) (by rfl) rfl ?_ ?_
  rotate_left
  · go_simp
    rfl
  refine hK.out _ _ ⟨by repeat (first | exact BS_9 | (refine blk_other_ ?_ ?_; · omega)), by repeat (first | exact BT_9 | (refine blk_other_ ?_ ?_; · omega))⟩ (fun hHeld => ?_)
  clear hK K hs hfs
  refine one_ (i := 5) (N := none) #[true, true, true, true, true, true, false] rfl rfl (by kernel_rfl) (by decide) (fun K hK => ?_)
  have k1 : (w9.setCell ⟨w.heap.size, 0, none⟩ (.slice Av1 1 cv1)).heap[w.heap.size + 1]? = some (.cells #[.slice none 0 0] 22 (0, 0)) := by repeat (first | exact B7_9 | (refine blk_other_ ?_ ?_; · omega))
  have hs := (blk_cell k1 0).trans (show _ = some (Value.slice none 0 0) from rfl)
  have hfs := blk_frozen k1 0
  clear hHeld
  refine skip_ (w1 := ?_) (by rfl) rfl ?_ ?_
  rotate_left
  · go_simp
    rfl
  refine hK.out _ _ ⟨by repeat (first | exact BS_9 | (refine blk_other_ ?_ ?_; · omega)), by repeat (first | exact BT_9 | (refine blk_other_ ?_ ?_; · omega))⟩ (fun hHeld => ?_)
  clear hK K hs hfs
  refine one_ (i := 6) (N := none) #[true, true, true, true, true, true, true] rfl rfl (by kernel_rfl) (by decide) (fun K hK => ?_)
  have k2 : ((w9.setCell ⟨w.heap.size, 0, none⟩ (.slice Av1 1 cv1)).setCell ⟨w.heap.size + 1, 0, none⟩ (.slice Av2 1 cv2)).heap[w.heap.size + 1 + 1]? = some (.cells #[.bool false] 4 (0, 0)) := by repeat (first | exact B8_9 | (refine blk_other_ ?_ ?_; · omega))
  have hs := (blk_cell k2 0).trans (show _ = some (Value.bool false) from rfl)
  have hfs := blk_frozen k2 0
  clear hHeld
  refine skip_ (w1 := ?_) (by rfl) rfl ?_ ?_
  rotate_left
  · go_simp
    rfl
  refine hK.out _ _ ⟨by repeat (first | exact BS_9 | (refine blk_other_ ?_ ?_; · omega)), by repeat (first | exact BT_9 | (refine blk_other_ ?_ ?_; · omega))⟩ (fun hHeld => ?_)
  clear hK K hs hfs
  refine done_ (by kernel_rfl) ?_
  clear hHeld
  obtain ⟨wF, hwF⟩ : ∃ wF, wF = (((w9.setCell ⟨w.heap.size, 0, none⟩ (.slice Av1 1 cv1)).setCell ⟨w.heap.size + 1, 0, none⟩ (.slice Av2 1 cv2)).setCell ⟨w.heap.size + 1 + 1, 0, none⟩ (.bool true)) := ⟨_, rfl⟩
  rw [← hwF]
  have q6 : wF.heap[w.heap.size]? = some (.cells #[.slice Av1 1 cv1] 22 (0, 0)) := by
    rw [hwF]; refine blk_other_ (by omega) (blk_other_ (by omega) ?_); exact blk_put_at B6_9 rfl
  have q7 : wF.heap[w.heap.size + 1]? = some (.cells #[.slice Av2 1 cv2] 22 (0, 0)) := by
    rw [hwF]; refine blk_other_ (by omega) ?_; exact blk_put_at k1 rfl
  have q8 : wF.heap[w.heap.size + 1 + 1]? = some (.cells #[.bool true] 4 (0, 0)) := by
    rw [hwF]; exact blk_put_at k2 rfl
  have rest : ∀ k, w7.heap.size ≤ k → wF.heap[k]? = w9.heap[k]? := by
    intro k hk
    rw [hwF]
    exact (heap_setCell_other _ _ _ _ (by simp only; omega)).trans ((heap_setCell_other _ _ _ _ (by simp only; omega)).trans (heap_setCell_other _ _ _ _ (by simp only; omega)))
  have hbF : Below w.heap.size w wF := by rw [hwF]; exact below_set (below_set (below_set hb9 (by omega)) (by omega)) (by omega)
  have r1 := Kd.R_lower (Kd.R_mono (Kd.R_move hR1' (w1 := wF) (fun k hk => rest k hk)) (fun k hk => (Nat.le_trans (by omega) hk : w.heap.size ≤ k))) (show w.heap.size ≤ w7.heap.size by omega)
  have r2 := Kd.R_lower (Kd.R_mono (Kd.R_move hR2 (w1 := wF) (fun k hk => rest k (Nat.le_trans hs8 hk))) (fun k hk => (Nat.le_trans (by omega) hk : w.heap.size ≤ k))) (show w.heap.size ≤ w8.heap.size by omega)
  clear hwF rest hR1 hR1' hR2 BS_9 BT_9 B6_9 B7_9 B8_9 k0 k1 k2
  refine NoPanic.normal ?_
  go_wp2_with (fail)
  refine leaves_cons (f := 22) (args := #[.pointer (some ⟨w.heap.size, 0, none⟩), .pointer (some ⟨w.heap.size + 1, 0, none⟩), .pointer (some ⟨w.heap.size + 1 + 1, 0, none⟩)]) (by simp) (by simp [go_sem]) ?_
  refine (catch_two _ _ _ _).mono ?_
  rintro e u' w'' ⟨rfl, rfl, rfl⟩
  have c6 := (blk_cell q6 0).trans (show _ = some (Value.slice Av1 1 cv1) from rfl)
  have c7 := (blk_cell q7 0).trans (show _ = some (Value.slice Av2 1 cv2) from rfl)
  have c8 := (blk_cell q8 0).trans (show _ = some (Value.bool true) from rfl)
  simp [Leaves, settle, results, Try.results7, go_sem, c6, c7, c8]
  refine ⟨_, _, ?_, r1, r2, hbF⟩
  exact ⟨rfl, rfl⟩
set_option maxHeartbeats 8000000 in
set_option maxRecDepth 100000 in
theorem decDiv32 (ad1 ad2 : Addr) (c1 c2 : Nat) (x y : Int) (w : World) (h1 : w.cell? ad1 = some (.int .u64 x)) (h2 : w.cell? ad2 = some (.int .u64 y)) (hx : wrap64 x = wrap64 (wrap32 x)) (hx2 : wrap64 y = wrap64 (wrap32 y)) (hy : wrap32 y ≠ 0) :
    Calls Try.prog 7 #[.int .i64 32, .slice (some ad1) 1 c1, .slice (some ad2) 1 c2] w fun e w' => ∃ v1 v2, e = .returned (.tuple #[v1, v2, .bool true]) ∧ Kd.R (Kd.int .u64) 25 w' w.heap.size (fun k_ => w.heap.size ≤ k_) v1 [IntKind.u64.wrap (wrap64 (wrap32 ((wrap32 x).tdiv (wrap32 y))))] ∧ Kd.R (Kd.int .u64) 25 w' w.heap.size (fun k_ => w.heap.size ≤ k_) v2 [IntKind.u64.wrap (wrap64 ((wrap32 x).tmod (wrap32 y)))] ∧ Below w.heap.size w w' := by
  have hmf : ∀ (fn : Fn) (first cap : Array Value) (w : World), (Instr.makeFunc fn first cap).run Try.prog w = .ok (.func fn first cap) w := fun _ _ _ _ => rfl
  go_enter_defers Try.func7, Try.ntmps7
  go_wp2_with (go_at_call 23; fail)
  clear hmf
  refine calls_at ?_
  intro w0 hw0
  have B6_0 : w0.heap[w.heap.size]? = some (.cells #[.slice none 0 0] 22 (0, 0)) := by
    rw [hw0]; repeat (first | exact rfl | (refine blk_new_at ?_; solve | simp) | refine blk_alloc_ ?_ | refine blk_drew_ ?_ | (refine blk_other_ ?_ ?_; · omega))
  have B7_0 : w0.heap[w.heap.size + 1]? = some (.cells #[.slice none 0 0] 22 (0, 0)) := by
    rw [hw0]; repeat (first | exact rfl | (refine blk_new_at ?_; solve | simp) | refine blk_alloc_ ?_ | refine blk_drew_ ?_ | (refine blk_other_ ?_ ?_; · omega))
  have B8_0 : w0.heap[w.heap.size + 1 + 1]? = some (.cells #[.bool false] 4 (0, 0)) := by
    rw [hw0]; repeat (first | exact rfl | (refine blk_new_at ?_; solve | simp) | refine blk_alloc_ ?_ | refine blk_drew_ ?_ | (refine blk_other_ ?_ ?_; · omega))
  have hb0 : Below w.heap.size w w0 := by rw [hw0]; exact below_alloc (below_alloc (below_alloc (Below.refl _ _) _) _) _
  have z0_0 : w.heap.size + 3 ≤ w0.heap.size := by rw [hw0]; simp; try omega
  clear hw0
  have h1_0 := keep hb0 h1
  have h2_0 := keep hb0 h2
  refine (decOf32 ad1 c1 x w0 h1_0 hx).mono ?_
  rintro e w1 ⟨rfl, hb_⟩
  have h2_1 := keep hb_ h2_0
  clear h1_0 h2_0 h1 h2
  have B6_1 := blk_below B6_0 hb_
  have B7_1 := blk_below B7_0 hb_
  have B8_1 := blk_below B8_0 hb_
  clear B6_0 B7_0 B8_0
  have HB1 := Lib.hid (hb0.trans (hb_.mono hb0.size))
  have z1_0 : w.heap.size + 3 ≤ w1.heap.size := Nat.le_trans z0_0 hb_.size
  clear hb_ hb0
  go_wp2_with (go_at_call 23; fail)
  refine calls_at ?_
  intro w2 hw2
  have B6_2 : w2.heap[w.heap.size]? = some (.cells #[.slice none 0 0] 22 (0, 0)) := by
    rw [hw2]; repeat (first | exact B6_1 | (refine blk_new_at ?_; solve | simp) | refine blk_alloc_ ?_ | refine blk_drew_ ?_ | (refine blk_other_ ?_ ?_; · omega))
  have B7_2 : w2.heap[w.heap.size + 1]? = some (.cells #[.slice none 0 0] 22 (0, 0)) := by
    rw [hw2]; repeat (first | exact B7_1 | (refine blk_new_at ?_; solve | simp) | refine blk_alloc_ ?_ | refine blk_drew_ ?_ | (refine blk_other_ ?_ ?_; · omega))
  have B8_2 : w2.heap[w.heap.size + 1 + 1]? = some (.cells #[.bool false] 4 (0, 0)) := by
    rw [hw2]; repeat (first | exact B8_1 | (refine blk_new_at ?_; solve | simp) | refine blk_alloc_ ?_ | refine blk_drew_ ?_ | (refine blk_other_ ?_ ?_; · omega))
  have BX_2 : w2.heap[w1.heap.size]? = some (.cells #[.int .i64 32, .int .i32 (wrap32 x), .int .i64 0, .int .u64 0, .int .i64 0, .int .u64 0, .int .u64 0, .int .u64 0, .int .u64 0] 62 (0, 0)) := by
    rw [hw2]; repeat (first | exact rfl | (refine blk_new_at ?_; solve | simp) | refine blk_alloc_ ?_ | refine blk_drew_ ?_ | (refine blk_other_ ?_ ?_; · omega))
  have hb2 : Below w.heap.size w w2 := by rw [hw2]; exact below_alloc HB1.out _
  have z2_0 : w1.heap.size + 1 ≤ w2.heap.size := by rw [hw2]; simp; try omega
  have h2_2 : w2.cell? ad2 = some (.int .u64 y) := by rw [hw2]; exact keep (below_alloc (Below.refl _ _) _) h2_1
  clear hw2 h2_1
  clear B6_1 B7_1 B8_1 HB1
  refine (decOf32 ad2 c2 y w2 h2_2 hx2).mono ?_
  rintro e w3 ⟨rfl, hb_⟩
  clear h2_2
  have B6_3 := blk_below B6_2 hb_
  have B7_3 := blk_below B7_2 hb_
  have B8_3 := blk_below B8_2 hb_
  have BX_3 := blk_below BX_2 hb_
  clear B6_2 B7_2 B8_2 BX_2
  have HB3 := Lib.hid (hb2.trans (hb_.mono hb2.size))
  have z3_0 : w1.heap.size + 1 ≤ w3.heap.size := Nat.le_trans z2_0 hb_.size
  clear hb_ hb2
  have cBX1 := alloced (show w3.cell? ⟨w1.heap.size, 1, none⟩ = some (.int .i32 (wrap32 x)) from (blk_cell BX_3 1).trans rfl)
  have fcBX1 := alloced_f (show w3.cell? ⟨w1.heap.size, 1, none⟩ = some (.int .i32 (wrap32 x)) from (blk_cell BX_3 1).trans rfl) (blk_frozen BX_3 1)
  go_wp2_with (go_at_call 24; fail)
  clear cBX1 fcBX1
  clear BX_3
  refine calls_at ?_
  intro w4 hw4
  have B6_4 : w4.heap[w.heap.size]? = some (.cells #[.slice none 0 0] 22 (0, 0)) := by
    rw [hw4]; repeat (first | exact B6_3 | (refine blk_new_at ?_; solve | simp) | refine blk_alloc_ ?_ | refine blk_drew_ ?_ | (refine blk_other_ ?_ ?_; · omega))
  have B7_4 : w4.heap[w.heap.size + 1]? = some (.cells #[.slice none 0 0] 22 (0, 0)) := by
    rw [hw4]; repeat (first | exact B7_3 | (refine blk_new_at ?_; solve | simp) | refine blk_alloc_ ?_ | refine blk_drew_ ?_ | (refine blk_other_ ?_ ?_; · omega))
  have B8_4 : w4.heap[w.heap.size + 1 + 1]? = some (.cells #[.bool false] 4 (0, 0)) := by
    rw [hw4]; repeat (first | exact B8_3 | (refine blk_new_at ?_; solve | simp) | refine blk_alloc_ ?_ | refine blk_drew_ ?_ | (refine blk_other_ ?_ ?_; · omega))
  have BS_4 : w4.heap[w3.heap.size + 1]? = some (.cells #[.int .i64 32, .int .i32 0, .int .i64 0, .int .u64 0, .int .i64 0, .int .u64 0, .int .u64 0, .int .u64 0, .int .u64 0] 62 (0, 0)) := by
    rw [hw4]; repeat (first | exact rfl | (refine blk_new_at ?_; solve | simp) | refine blk_alloc_ ?_ | refine blk_drew_ ?_ | (refine blk_other_ ?_ ?_; · omega))
  have BT_4 : w4.heap[w3.heap.size + 1 + 1]? = some (.cells #[.int .i64 32, .int .i32 0, .int .i64 0, .int .u64 0, .int .i64 0, .int .u64 0, .int .u64 0, .int .u64 0, .int .u64 0] 62 (0, 0)) := by
    rw [hw4]; repeat (first | exact rfl | (refine blk_new_at ?_; solve | simp) | refine blk_alloc_ ?_ | refine blk_drew_ ?_ | (refine blk_other_ ?_ ?_; · omega))
  have hb4 : Below w.heap.size w w4 := by rw [hw4]; exact below_alloc (below_alloc (below_alloc HB3.out _) _) _
  have z4_0 : w3.heap.size + 3 ≤ w4.heap.size := by rw [hw4]; simp; try omega
  clear hw4
  clear B6_3 B7_3 B8_3 HB3
  refine (decimal_Decimal32_Div.calls (wrap32 x) (wrap32 y) (wrap32 (Int.tdiv (wrap32 x) (wrap32 y))) (Int.tmod (wrap32 x) (wrap32 y)) w4 (if_neg hy)).mono ?_
  rintro e w5 ⟨rfl, hd⟩
  have hb_ := drawn_below hd
  clear hd
  have B6_5 := blk_below B6_4 hb_
  have B7_5 := blk_below B7_4 hb_
  have B8_5 := blk_below B8_4 hb_
  have BS_5 := blk_below BS_4 hb_
  have BT_5 := blk_below BT_4 hb_
  clear B6_4 B7_4 B8_4 BS_4 BT_4
  have HB5 := Lib.hid (hb4.trans (hb_.mono hb4.size))
  have z5_0 : w3.heap.size + 3 ≤ w5.heap.size := Nat.le_trans z4_0 hb_.size
  clear hb_ hb4
  have cBS1 : w5.cell? ⟨w3.heap.size + 1, 1, none⟩ = some (.int .i32 0) := (blk_cell BS_5 1).trans rfl
  have fcBS1 := blk_frozen BS_5 1
  have cBT1 : w5.cell? ⟨w3.heap.size + 1 + 1, 1, none⟩ = some (.int .i32 0) := (blk_cell BT_5 1).trans rfl
  have fcBT1 := blk_frozen BT_5 1
  go_wp2_with (go_at_call 26; fail)
  refine wp_at ?_
  intro w6 hw6
  have B6_6 : w6.drew.heap[w.heap.size]? = some (.cells #[.slice none 0 0] 22 (0, 0)) := by
    rw [hw6]; repeat (first | exact B6_5 | (refine blk_new_at ?_; solve | simp) | refine blk_alloc_ ?_ | refine blk_drew_ ?_ | (refine blk_other_ ?_ ?_; · omega))
  have B7_6 : w6.drew.heap[w.heap.size + 1]? = some (.cells #[.slice none 0 0] 22 (0, 0)) := by
    rw [hw6]; repeat (first | exact B7_5 | (refine blk_new_at ?_; solve | simp) | refine blk_alloc_ ?_ | refine blk_drew_ ?_ | (refine blk_other_ ?_ ?_; · omega))
  have B8_6 : w6.drew.heap[w.heap.size + 1 + 1]? = some (.cells #[.bool false] 4 (0, 0)) := by
    rw [hw6]; repeat (first | exact B8_5 | (refine blk_new_at ?_; solve | simp) | refine blk_alloc_ ?_ | refine blk_drew_ ?_ | (refine blk_other_ ?_ ?_; · omega))
  have BS_6 : w6.drew.heap[w3.heap.size + 1]? = some (.cells #[.int .i64 32, .int .i32 (wrap32 (Int.tdiv (wrap32 x) (wrap32 y))), .int .i64 0, .int .u64 0, .int .i64 0, .int .u64 0, .int .u64 0, .int .u64 0, .int .u64 0] 62 (0, 0)) := by
    rw [hw6]; repeat (first | exact BS_5 | (refine blk_new_at ?_; solve | simp) | refine blk_alloc_ ?_ | refine blk_drew_ ?_ | refine blk_put_at (cs := #[.int .i64 32, .int .i32 0, .int .i64 0, .int .u64 0, .int .i64 0, .int .u64 0, .int .u64 0, .int .u64 0, .int .u64 0]) (i := 1) ?_ rfl | (refine blk_other_ ?_ ?_; · omega))
  have BT_6 : w6.drew.heap[w3.heap.size + 1 + 1]? = some (.cells #[.int .i64 32, .int .i32 (Int.tmod (wrap32 x) (wrap32 y)), .int .i64 0, .int .u64 0, .int .i64 0, .int .u64 0, .int .u64 0, .int .u64 0, .int .u64 0] 62 (0, 0)) := by
    rw [hw6]; repeat (first | exact BT_5 | (refine blk_new_at ?_; solve | simp) | refine blk_alloc_ ?_ | refine blk_drew_ ?_ | refine blk_put_at (cs := #[.int .i64 32, .int .i32 0, .int .i64 0, .int .u64 0, .int .i64 0, .int .u64 0, .int .u64 0, .int .u64 0, .int .u64 0]) (i := 1) ?_ rfl | (refine blk_other_ ?_ ?_; · omega))
  have hb6 : Below w.heap.size w w6.drew := by rw [hw6]; exact below_drew (below_set (below_set HB5.out (by omega)) (by omega))
  clear hw6
  clear cBS1 fcBS1 cBT1 fcBT1
  clear B6_5 B7_5 B8_5 BS_5 BT_5 HB5
  have nz : w.heap.size + 3 ≤ w3.heap.size := by omega
  clear z0_0 z1_0 z2_0 z3_0 z4_0
  refine wp_region_noPanic ?_
  refine start_ (n := 7) (S := fun w' => w'.heap[w3.heap.size + 1]? = some (.cells #[.int .i64 32, .int .i32 (wrap32 (Int.tdiv (wrap32 x) (wrap32 y))), .int .i64 0, .int .u64 0, .int .i64 0, .int .u64 0, .int .u64 0, .int .u64 0, .int .u64 0] 62 (0, 0)) ∧ w'.heap[w3.heap.size + 1 + 1]? = some (.cells #[.int .i64 32, .int .i32 (Int.tmod (wrap32 x) (wrap32 y)), .int .i64 0, .int .u64 0, .int .i64 0, .int .u64 0, .int .u64 0, .int .u64 0, .int .u64 0] 62 (0, 0))) (ds := []) #[false, false, false, false, false, false, false] (by kernel_rfl) rfl rfl ⟨BS_6, BT_6⟩ (fun hHeld => ?_)
  generalize w6.drew = w7 at *
  have B6_7 := B6_6
  clear B6_6
  have B7_7 := B7_6
  clear B7_6
  have B8_7 := B8_6
  clear B8_6
  have Z7 := blk_lt B8_7
  have BS_7 := BS_6
  clear BS_6
  have BT_7 := BT_6
  clear BT_6
  refine take_ (i := 0) (N := some 63) (v := ?_) (a' := ?_) #[true, false, false, false, false, false, false] rfl rfl (by kernel_rfl) (fun _ _ _ h => h) (Or.inl ⟨by rfl, ?_⟩) hHeld ?_ ?_
  rotate_left
  · intro w' s0
    have d0 : w'.cell? ⟨w3.heap.size + 1, 0, none⟩ = some (.int .i64 32) := (blk_cell s0.1 0).trans rfl
    have d1 : w'.cell? ⟨w3.heap.size + 1, 1, none⟩ = some (.int .i32 (wrap32 (Int.tdiv (wrap32 x) (wrap32 y)))) := (blk_cell s0.1 1).trans rfl
    have d2 : w'.cell? ⟨w3.heap.size + 1, 2, none⟩ = some (.int .i64 0) := (blk_cell s0.1 2).trans rfl
    have d3 : w'.cell? ⟨w3.heap.size + 1, 3, none⟩ = some (.int .u64 0) := (blk_cell s0.1 3).trans rfl
    have d4 : w'.cell? ⟨w3.heap.size + 1, 4, none⟩ = some (.int .i64 0) := (blk_cell s0.1 4).trans rfl
    have d5 : w'.cell? ⟨w3.heap.size + 1, 5, none⟩ = some (.int .u64 0) := (blk_cell s0.1 5).trans rfl
    have d6 : w'.cell? ⟨w3.heap.size + 1, 6, none⟩ = some (.int .u64 0) := (blk_cell s0.1 6).trans rfl
    have d7 : w'.cell? ⟨w3.heap.size + 1, 7, none⟩ = some (.int .u64 0) := (blk_cell s0.1 7).trans rfl
    have d8 : w'.cell? ⟨w3.heap.size + 1, 8, none⟩ = some (.int .u64 0) := (blk_cell s0.1 8).trans rfl
    clear s0
    go_simp
    with_reducible rfl
  rotate_left
  · simp only [Act.put, s1_, s2_, s3_]
    rfl
  refine take_ (i := 2) (N := some 65) (v := ?_) (a' := ?_) #[true, false, true, false, false, false, false] rfl rfl (by kernel_rfl) (fun _ _ _ h => h) (Or.inl ⟨by rfl, ?_⟩) hHeld ?_ ?_
  rotate_left
  · intro w' s0
    have d0 : w'.cell? ⟨w3.heap.size + 1 + 1, 0, none⟩ = some (.int .i64 32) := (blk_cell s0.2 0).trans rfl
    have d1 : w'.cell? ⟨w3.heap.size + 1 + 1, 1, none⟩ = some (.int .i32 (Int.tmod (wrap32 x) (wrap32 y))) := (blk_cell s0.2 1).trans rfl
    have d2 : w'.cell? ⟨w3.heap.size + 1 + 1, 2, none⟩ = some (.int .i64 0) := (blk_cell s0.2 2).trans rfl
    have d3 : w'.cell? ⟨w3.heap.size + 1 + 1, 3, none⟩ = some (.int .u64 0) := (blk_cell s0.2 3).trans rfl
    have d4 : w'.cell? ⟨w3.heap.size + 1 + 1, 4, none⟩ = some (.int .i64 0) := (blk_cell s0.2 4).trans rfl
    have d5 : w'.cell? ⟨w3.heap.size + 1 + 1, 5, none⟩ = some (.int .u64 0) := (blk_cell s0.2 5).trans rfl
    have d6 : w'.cell? ⟨w3.heap.size + 1 + 1, 6, none⟩ = some (.int .u64 0) := (blk_cell s0.2 6).trans rfl
    have d7 : w'.cell? ⟨w3.heap.size + 1 + 1, 7, none⟩ = some (.int .u64 0) := (blk_cell s0.2 7).trans rfl
    have d8 : w'.cell? ⟨w3.heap.size + 1 + 1, 8, none⟩ = some (.int .u64 0) := (blk_cell s0.2 8).trans rfl
    clear s0
    go_simp
    with_reducible rfl
  rotate_left
  · simp only [Act.put, s1_, s2_, s3_]
    rfl
  refine one_ (i := 1) (N := some 64) #[true, true, true, false, false, false, false] rfl rfl (by kernel_rfl) (by decide) (fun K hK => ?_)
  refine goes_ Try.func26 (by kernel_rfl) rfl #[.agg #[.int .i64 32, .int .i32 (wrap32 (Int.tdiv (wrap32 x) (wrap32 y))), .int .i64 0, .int .u64 0, .int .i64 0, .int .u64 0, .int .u64 0, .int .u64 0, .int .u64 0]] (by rfl) rfl rfl (by (try simp only [List.map_toArray, List.map_cons, List.map_nil]); rfl) ?_
  refine (words32 (wrap32 (Int.tdiv (wrap32 x) (wrap32 y))) 0 0 0 0 0 0 0 w7).mono ?_
  rintro e w8 ⟨v1, rfl, hR1, hb_⟩
  obtain ⟨Av1, cv1, rfl⟩ := Kd.R_slice hR1
  refine ⟨_, rfl, ?_⟩
  have B6_8 := blk_below B6_7 hb_
  have B7_8 := blk_below B7_7 hb_
  have B8_8 := blk_below B8_7 hb_
  have BS_8 := blk_below BS_7 hb_
  have BT_8 := blk_below BT_7 hb_
  have hs8 := hb_.size
  have hb8 := hb6.trans (hb_.mono hb6.size)
  refine hK.out _ _ ⟨BS_8, BT_8⟩ (fun hHeld => ?_)
  clear hK K hb_
  refine norm_ (a' := ?_) ?_ ?_
  rotate_left
  · show Act.put _ (some 64) _ = _
    simp only [Act.put, s1_, s2_, s3_]
    rfl
  refine one_ (i := 3) (N := some 66) #[true, true, true, true, false, false, false] rfl rfl (by kernel_rfl) (by decide) (fun K hK => ?_)
  refine goes_ Try.func26 (by kernel_rfl) rfl #[.agg #[.int .i64 32, .int .i32 (Int.tmod (wrap32 x) (wrap32 y)), .int .i64 0, .int .u64 0, .int .i64 0, .int .u64 0, .int .u64 0, .int .u64 0, .int .u64 0]] (by rfl) rfl rfl (by (try simp only [List.map_toArray, List.map_cons, List.map_nil]); rfl) ?_
  refine (words32 (Int.tmod (wrap32 x) (wrap32 y)) 0 0 0 0 0 0 0 w8).mono ?_
  rintro e w9 ⟨v2, rfl, hR2, hb_⟩
  obtain ⟨Av2, cv2, rfl⟩ := Kd.R_slice hR2
  refine ⟨_, rfl, ?_⟩
  have B6_9 := blk_below B6_8 hb_
  have B7_9 := blk_below B7_8 hb_
  have B8_9 := blk_below B8_8 hb_
  have BS_9 := blk_below BS_8 hb_
  have BT_9 := blk_below BT_8 hb_
  have hs9 := hb_.size
  have hb9 := hb8.trans (hb_.mono hb8.size)
  have hR1' := Kd.R_below hR1 hb_
  refine hK.out _ _ ⟨BS_9, BT_9⟩ (fun hHeld => ?_)
  clear hK K hb_
  refine norm_ (a' := ?_) ?_ ?_
  rotate_left
  · show Act.put _ (some 66) _ = _
    simp only [Act.put, s1_, s2_, s3_]
    rfl
  have l6 : w.heap.size + 1 + 1 < w7.heap.size := Z7
  have l9 : w7.heap.size ≤ w9.heap.size := Nat.le_trans hs8 hs9
  have b3 : w3.heap.size = w3.heap.size := rfl
  refine one_ (i := 4) (N := none) #[true, true, true, true, true, false, false] rfl rfl (by kernel_rfl) (by decide) (fun K hK => ?_)
  have k0 := B6_9
  have hs := (blk_cell k0 0).trans (show _ = some (Value.slice none 0 0) from rfl)
  have hfs := blk_frozen k0 0
  clear hHeld
  refine skip_ (w1 := ?_) (by rfl) rfl ?_ ?_
  rotate_left
  · go_simp
    rfl
  refine hK.out _ _ ⟨by repeat (first | exact BS_9 | (refine blk_other_ ?_ ?_; · omega)), by repeat (first | exact BT_9 | (refine blk_other_ ?_ ?_; · omega))⟩ (fun hHeld => ?_)
  clear hK K hs hfs
  refine one_ (i := 5) (N := none) #[true, true, true, true, true, true, false] rfl rfl (by kernel_rfl) (by decide) (fun K hK => ?_)
  have k1 : (w9.setCell ⟨w.heap.size, 0, none⟩ (.slice Av1 1 cv1)).heap[w.heap.size + 1]? = some (.cells #[.slice none 0 0] 22 (0, 0)) := by repeat (first | exact B7_9 | (refine blk_other_ ?_ ?_; · omega))
  have hs := (blk_cell k1 0).trans (show _ = some (Value.slice none 0 0) from rfl)
  have hfs := blk_frozen k1 0
  clear hHeld
  refine skip_ (w1 := ?_) (by rfl) rfl ?_ ?_
  rotate_left
  · go_simp
    rfl
  refine hK.out _ _ ⟨by repeat (first | exact BS_9 | (refine blk_other_ ?_ ?_; · omega)), by repeat (first | exact BT_9 | (refine blk_other_ ?_ ?_; · omega))⟩ (fun hHeld => ?_)
  clear hK K hs hfs
  refine one_ (i := 6) (N := none) #[true, true, true, true, true, true, true] rfl rfl (by kernel_rfl) (by decide) (fun K hK => ?_)
  have k2 : ((w9.setCell ⟨w.heap.size, 0, none⟩ (.slice Av1 1 cv1)).setCell ⟨w.heap.size + 1, 0, none⟩ (.slice Av2 1 cv2)).heap[w.heap.size + 1 + 1]? = some (.cells #[.bool false] 4 (0, 0)) := by repeat (first | exact B8_9 | (refine blk_other_ ?_ ?_; · omega))
  have hs := (blk_cell k2 0).trans (show _ = some (Value.bool false) from rfl)
  have hfs := blk_frozen k2 0
  clear hHeld
  refine skip_ (w1 := ?_) (by rfl) rfl ?_ ?_
  rotate_left
  · go_simp
    rfl
  refine hK.out _ _ ⟨by repeat (first | exact BS_9 | (refine blk_other_ ?_ ?_; · omega)), by repeat (first | exact BT_9 | (refine blk_other_ ?_ ?_; · omega))⟩ (fun hHeld => ?_)
  clear hK K hs hfs
  refine done_ (by kernel_rfl) ?_
  clear hHeld
  obtain ⟨wF, hwF⟩ : ∃ wF, wF = (((w9.setCell ⟨w.heap.size, 0, none⟩ (.slice Av1 1 cv1)).setCell ⟨w.heap.size + 1, 0, none⟩ (.slice Av2 1 cv2)).setCell ⟨w.heap.size + 1 + 1, 0, none⟩ (.bool true)) := ⟨_, rfl⟩
  rw [← hwF]
  have q6 : wF.heap[w.heap.size]? = some (.cells #[.slice Av1 1 cv1] 22 (0, 0)) := by
    rw [hwF]; refine blk_other_ (by omega) (blk_other_ (by omega) ?_); exact blk_put_at B6_9 rfl
  have q7 : wF.heap[w.heap.size + 1]? = some (.cells #[.slice Av2 1 cv2] 22 (0, 0)) := by
    rw [hwF]; refine blk_other_ (by omega) ?_; exact blk_put_at k1 rfl
  have q8 : wF.heap[w.heap.size + 1 + 1]? = some (.cells #[.bool true] 4 (0, 0)) := by
    rw [hwF]; exact blk_put_at k2 rfl
  have rest : ∀ k, w7.heap.size ≤ k → wF.heap[k]? = w9.heap[k]? := by
    intro k hk
    rw [hwF]
    exact (heap_setCell_other _ _ _ _ (by simp only; omega)).trans ((heap_setCell_other _ _ _ _ (by simp only; omega)).trans (heap_setCell_other _ _ _ _ (by simp only; omega)))
  have hbF : Below w.heap.size w wF := by rw [hwF]; exact below_set (below_set (below_set hb9 (by omega)) (by omega)) (by omega)
  have r1 := Kd.R_lower (Kd.R_mono (Kd.R_move hR1' (w1 := wF) (fun k hk => rest k hk)) (fun k hk => (Nat.le_trans (by omega) hk : w.heap.size ≤ k))) (show w.heap.size ≤ w7.heap.size by omega)
  have r2 := Kd.R_lower (Kd.R_mono (Kd.R_move hR2 (w1 := wF) (fun k hk => rest k (Nat.le_trans hs8 hk))) (fun k hk => (Nat.le_trans (by omega) hk : w.heap.size ≤ k))) (show w.heap.size ≤ w8.heap.size by omega)
  clear hwF rest hR1 hR1' hR2 BS_9 BT_9 B6_9 B7_9 B8_9 k0 k1 k2
  refine NoPanic.normal ?_
  go_wp2_with (fail)
  refine leaves_cons (f := 22) (args := #[.pointer (some ⟨w.heap.size, 0, none⟩), .pointer (some ⟨w.heap.size + 1, 0, none⟩), .pointer (some ⟨w.heap.size + 1 + 1, 0, none⟩)]) (by simp) (by simp [go_sem]) ?_
  refine (catch_two _ _ _ _).mono ?_
  rintro e u' w'' ⟨rfl, rfl, rfl⟩
  have c6 := (blk_cell q6 0).trans (show _ = some (Value.slice Av1 1 cv1) from rfl)
  have c7 := (blk_cell q7 0).trans (show _ = some (Value.slice Av2 1 cv2) from rfl)
  have c8 := (blk_cell q8 0).trans (show _ = some (Value.bool true) from rfl)
  simp [Leaves, settle, results, Try.results7, go_sem, c6, c7, c8]
  refine ⟨_, _, ?_, r1, r2, hbF⟩
  exact ⟨rfl, rfl⟩
end Go.Proofs.Ytiiicmfobljnaaa.V
