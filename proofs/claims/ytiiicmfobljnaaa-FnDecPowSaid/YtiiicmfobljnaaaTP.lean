/- The walks of impl.DecPow at 32 and 64 bits. -/
import Derived.Test.YtiiicmfobljnaaaTW
namespace Go.Proofs.Ytiiicmfobljnaaa.V
open Go.RowKit Go.Proofs.YtiiicmfobljnaaaW.PrintWords Go.Proofs.YtiiicmfobljnaaaW.PrintLast Go.Proofs.YtiiicmfobljnaaaW.PrintMore
set_option maxHeartbeats 8000000 in
set_option maxRecDepth 100000 in
theorem decPow64 (k_ : Nat) (ad1 ad2 : Addr) (c1 c2 : Nat) (x y r : Int) (w : World) (h1 : w.cell? ad1 = some (.int .u64 x)) (h2 : w.cell? ad2 = some (.int .u64 y)) (hp : decimal_Decimal64_Pow.f k_ (wrap64 x) (wrap64 y) = some r) :
    Calls Try.prog 13 #[.int .i64 64, .slice (some ad1) 1 c1, .slice (some ad2) 1 c2] w fun e w' => ∃ v1, e = .returned (.tuple #[v1, .bool true]) ∧ Kd.R (Kd.int .u64) 25 w' w.heap.size (fun k_ => w.heap.size ≤ k_) v1 [IntKind.u64.wrap r] ∧ Below w.heap.size w w' := by
  have hmf : ∀ (fn : Fn) (first cap : Array Value) (w : World), (Instr.makeFunc fn first cap).run Try.prog w = .ok (.func fn first cap) w := fun _ _ _ _ => rfl
  go_enter_defers Try.func13, Try.ntmps13
  go_wp2_with (go_at_call 23; fail)
  clear hmf
  refine calls_at ?_
  intro w0 hw0
  have B6_0 : w0.heap[w.heap.size]? = some (.cells #[.slice none 0 0] 22 (0, 0)) := by
    rw [hw0]; repeat (first | exact rfl | (refine blk_new_at ?_; solve | simp) | refine blk_alloc_ ?_ | refine blk_drew_ ?_ | (refine blk_other_ ?_ ?_; · omega))
  have B7_0 : w0.heap[w.heap.size + 1]? = some (.cells #[.bool false] 4 (0, 0)) := by
    rw [hw0]; repeat (first | exact rfl | (refine blk_new_at ?_; solve | simp) | refine blk_alloc_ ?_ | refine blk_drew_ ?_ | (refine blk_other_ ?_ ?_; · omega))
  have hb0 : Below w.heap.size w w0 := by rw [hw0]; exact below_alloc (below_alloc (Below.refl _ _) _) _
  have z0_0 : w.heap.size + 2 ≤ w0.heap.size := by rw [hw0]; simp; try omega
  clear hw0
  have h1_0 := keep hb0 h1
  have h2_0 := keep hb0 h2
  refine (decOf64 ad1 c1 x w0 h1_0).mono ?_
  rintro e w1 ⟨rfl, hb_⟩
  have h2_1 := keep hb_ h2_0
  clear h1_0 h2_0 h1 h2
  have B6_1 := blk_below B6_0 hb_
  have B7_1 := blk_below B7_0 hb_
  clear B6_0 B7_0
  have HB1 := Lib.hid (hb0.trans (hb_.mono hb0.size))
  have z1_0 : w.heap.size + 2 ≤ w1.heap.size := Nat.le_trans z0_0 hb_.size
  clear hb_ hb0
  go_wp2_with (go_at_call 23; fail)
  refine calls_at ?_
  intro w2 hw2
  have B6_2 : w2.heap[w.heap.size]? = some (.cells #[.slice none 0 0] 22 (0, 0)) := by
    rw [hw2]; repeat (first | exact B6_1 | (refine blk_new_at ?_; solve | simp) | refine blk_alloc_ ?_ | refine blk_drew_ ?_ | (refine blk_other_ ?_ ?_; · omega))
  have B7_2 : w2.heap[w.heap.size + 1]? = some (.cells #[.bool false] 4 (0, 0)) := by
    rw [hw2]; repeat (first | exact B7_1 | (refine blk_new_at ?_; solve | simp) | refine blk_alloc_ ?_ | refine blk_drew_ ?_ | (refine blk_other_ ?_ ?_; · omega))
  have BX_2 : w2.heap[w1.heap.size]? = some (.cells #[.int .i64 64, .int .i32 0, .int .i64 (wrap64 x), .int .u64 0, .int .i64 0, .int .u64 0, .int .u64 0, .int .u64 0, .int .u64 0] 62 (0, 0)) := by
    rw [hw2]; repeat (first | exact rfl | (refine blk_new_at ?_; solve | simp) | refine blk_alloc_ ?_ | refine blk_drew_ ?_ | (refine blk_other_ ?_ ?_; · omega))
  have hb2 : Below w.heap.size w w2 := by rw [hw2]; exact below_alloc HB1.out _
  have z2_0 : w1.heap.size + 1 ≤ w2.heap.size := by rw [hw2]; simp; try omega
  have h2_2 : w2.cell? ad2 = some (.int .u64 y) := by rw [hw2]; exact keep (below_alloc (Below.refl _ _) _) h2_1
  clear hw2 h2_1
  clear B6_1 B7_1 HB1
  refine (decOf64 ad2 c2 y w2 h2_2).mono ?_
  rintro e w3 ⟨rfl, hb_⟩
  clear h2_2
  have B6_3 := blk_below B6_2 hb_
  have B7_3 := blk_below B7_2 hb_
  have BX_3 := blk_below BX_2 hb_
  clear B6_2 B7_2 BX_2
  have HB3 := Lib.hid (hb2.trans (hb_.mono hb2.size))
  have z3_0 : w1.heap.size + 1 ≤ w3.heap.size := Nat.le_trans z2_0 hb_.size
  clear hb_ hb2
  have cBX2 := alloced (show w3.cell? ⟨w1.heap.size, 2, none⟩ = some (.int .i64 (wrap64 x)) from (blk_cell BX_3 2).trans rfl)
  have fcBX2 := alloced_f (show w3.cell? ⟨w1.heap.size, 2, none⟩ = some (.int .i64 (wrap64 x)) from (blk_cell BX_3 2).trans rfl) (blk_frozen BX_3 2)
  go_wp2_with (go_at_call 34; fail)
  refine calls_at ?_
  intro w4 hw4
  have B6_4 : w4.heap[w.heap.size]? = some (.cells #[.slice none 0 0] 22 (0, 0)) := by
    rw [hw4]; repeat (first | exact B6_3 | (refine blk_new_at ?_; solve | simp) | refine blk_alloc_ ?_ | refine blk_drew_ ?_ | (refine blk_other_ ?_ ?_; · omega))
  have B7_4 : w4.heap[w.heap.size + 1]? = some (.cells #[.bool false] 4 (0, 0)) := by
    rw [hw4]; repeat (first | exact B7_3 | (refine blk_new_at ?_; solve | simp) | refine blk_alloc_ ?_ | refine blk_drew_ ?_ | (refine blk_other_ ?_ ?_; · omega))
  have BX_4 : w4.heap[w1.heap.size]? = some (.cells #[.int .i64 64, .int .i32 0, .int .i64 (wrap64 x), .int .u64 0, .int .i64 0, .int .u64 0, .int .u64 0, .int .u64 0, .int .u64 0] 62 (0, 0)) := by
    rw [hw4]; repeat (first | exact BX_3 | (refine blk_new_at ?_; solve | simp) | refine blk_alloc_ ?_ | refine blk_drew_ ?_ | (refine blk_other_ ?_ ?_; · omega))
  have hb4 : Below w.heap.size w w4 := by rw [hw4]; exact below_alloc HB3.out _
  have z4_0 : w3.heap.size + 1 ≤ w4.heap.size := by rw [hw4]; simp; try omega
  clear hw4
  clear cBX2 fcBX2
  clear B6_3 B7_3 BX_3 HB3
  refine (decimal_Decimal64_Pow.calls k_ (wrap64 x) (wrap64 y) r w4 hp).mono ?_
  rintro e w5 ⟨rfl, hd⟩
  have hb_ := drawn_below hd
  clear hd
  have B6_5 := blk_below B6_4 hb_
  have B7_5 := blk_below B7_4 hb_
  have BX_5 := blk_below BX_4 hb_
  clear B6_4 B7_4 BX_4
  have HB5 := Lib.hid (hb4.trans (hb_.mono hb4.size))
  clear hb_ hb4
  have cBX0 : w5.cell? ⟨w1.heap.size, 0, none⟩ = some (.int .i64 64) := (blk_cell BX_5 0).trans rfl
  have fcBX0 := blk_frozen BX_5 0
  have cBX1 : w5.cell? ⟨w1.heap.size, 1, none⟩ = some (.int .i32 0) := (blk_cell BX_5 1).trans rfl
  have fcBX1 := blk_frozen BX_5 1
  have cBX2 : w5.cell? ⟨w1.heap.size, 2, none⟩ = some (.int .i64 (wrap64 x)) := (blk_cell BX_5 2).trans rfl
  have fcBX2 := blk_frozen BX_5 2
  have cBX3 : w5.cell? ⟨w1.heap.size, 3, none⟩ = some (.int .u64 0) := (blk_cell BX_5 3).trans rfl
  have fcBX3 := blk_frozen BX_5 3
  have cBX4 : w5.cell? ⟨w1.heap.size, 4, none⟩ = some (.int .i64 0) := (blk_cell BX_5 4).trans rfl
  have fcBX4 := blk_frozen BX_5 4
  have cBX5 : w5.cell? ⟨w1.heap.size, 5, none⟩ = some (.int .u64 0) := (blk_cell BX_5 5).trans rfl
  have fcBX5 := blk_frozen BX_5 5
  have cBX6 : w5.cell? ⟨w1.heap.size, 6, none⟩ = some (.int .u64 0) := (blk_cell BX_5 6).trans rfl
  have fcBX6 := blk_frozen BX_5 6
  have cBX7 : w5.cell? ⟨w1.heap.size, 7, none⟩ = some (.int .u64 0) := (blk_cell BX_5 7).trans rfl
  have fcBX7 := blk_frozen BX_5 7
  have cBX8 : w5.cell? ⟨w1.heap.size, 8, none⟩ = some (.int .u64 0) := (blk_cell BX_5 8).trans rfl
  have fcBX8 := blk_frozen BX_5 8
  go_wp2_with (go_at_call 26; fail)
  refine calls_at ?_
  intro w6 hw6
  have B6_6 : w6.heap[w.heap.size]? = some (.cells #[.slice none 0 0] 22 (0, 0)) := by
    rw [hw6]; repeat (first | exact B6_5 | (refine blk_new_at ?_; solve | simp) | refine blk_alloc_ ?_ | refine blk_drew_ ?_ | (refine blk_other_ ?_ ?_; · omega))
  have B7_6 : w6.heap[w.heap.size + 1]? = some (.cells #[.bool false] 4 (0, 0)) := by
    rw [hw6]; repeat (first | exact B7_5 | (refine blk_new_at ?_; solve | simp) | refine blk_alloc_ ?_ | refine blk_drew_ ?_ | (refine blk_other_ ?_ ?_; · omega))
  have BX_6 : w6.heap[w1.heap.size]? = some (.cells #[.int .i64 64, .int .i32 0, .int .i64 r, .int .u64 0, .int .i64 0, .int .u64 0, .int .u64 0, .int .u64 0, .int .u64 0] 62 (0, 0)) := by
    rw [hw6]; repeat (first | exact BX_5 | (refine blk_new_at ?_; solve | simp) | refine blk_alloc_ ?_ | refine blk_drew_ ?_ | refine blk_put_at (cs := #[.int .i64 64, .int .i32 0, .int .i64 (wrap64 x), .int .u64 0, .int .i64 0, .int .u64 0, .int .u64 0, .int .u64 0, .int .u64 0]) (i := 2) ?_ rfl | (refine blk_other_ ?_ ?_; · omega))
  have hb6 : Below w.heap.size w w6 := by rw [hw6]; exact below_set HB5.out (by omega)
  clear hw6
  clear cBX0 fcBX0 cBX1 fcBX1 cBX2 fcBX2 cBX3 fcBX3 cBX4 fcBX4 cBX5 fcBX5 cBX6 fcBX6 cBX7 fcBX7 cBX8 fcBX8
  clear B6_5 B7_5 BX_5 HB5
  refine (words64 r 0 0 0 0 0 0 0 w6).mono ?_
  rintro e w7 ⟨v1, rfl, hR1, hb_⟩
  obtain ⟨Av1, cv1, rfl⟩ := Kd.R_slice hR1
  have l7 := blk_lt B7_6
  have hs7 := hb_.size
  have B6_7 := blk_below B6_6 hb_
  have B7_7 := blk_below B7_6 hb_
  have BX_7 := blk_below BX_6 hb_
  clear B6_6 B7_6 BX_6
  have HB7 := Lib.hid (hb6.trans (hb_.mono hb6.size))
  clear hb_ hb6
  have cB60 : w7.cell? ⟨w.heap.size, 0, none⟩ = some (.slice none 0 0) := (blk_cell B6_7 0).trans rfl
  have fcB60 := blk_frozen B6_7 0
  have cB70 : w7.cell? ⟨w.heap.size + 1, 0, none⟩ = some (.bool false) := (blk_cell B7_7 0).trans rfl
  have fcB70 := blk_frozen B7_7 0
  go_wp2_with (fail)
  clear cB60 fcB60 cB70 fcB70
  obtain ⟨wF, hwF⟩ : ∃ wF, wF = ((w7.setCell ⟨w.heap.size, 0, none⟩ (.slice Av1 1 cv1)).setCell ⟨w.heap.size + 1, 0, none⟩ (.bool true)) := ⟨_, rfl⟩
  rw [← hwF]
  have q6 : wF.heap[w.heap.size]? = some (.cells #[.slice Av1 1 cv1] 22 (0, 0)) := by
    rw [hwF]; refine blk_other_ (by omega) ?_; exact blk_put_at B6_7 rfl
  have k1 : (w7.setCell ⟨w.heap.size, 0, none⟩ (.slice Av1 1 cv1)).heap[w.heap.size + 1]? = some (.cells #[.bool false] 4 (0, 0)) := blk_other_ (by omega) B7_7
  have q7 : wF.heap[w.heap.size + 1]? = some (.cells #[.bool true] 4 (0, 0)) := by
    rw [hwF]; exact blk_put_at k1 rfl
  have rest : ∀ k, w6.heap.size ≤ k → wF.heap[k]? = w7.heap[k]? := by
    intro k hk
    rw [hwF]
    exact (heap_setCell_other _ _ _ _ (by simp only; omega)).trans (heap_setCell_other _ _ _ _ (by simp only; omega))
  have hbF : Below w.heap.size w wF := by rw [hwF]; exact below_set (below_set HB7.out (by omega)) (by omega)
  have r1 := Kd.R_lower (Kd.R_mono (Kd.R_move hR1 (w1 := wF) (fun k hk => rest k hk)) (fun k hk => (Nat.le_trans (by omega) hk : w.heap.size ≤ k))) (show w.heap.size ≤ w6.heap.size by omega)
  clear hwF rest hR1 k1
  refine leaves_cons (f := 32) (args := #[.pointer (some ⟨w.heap.size, 0, none⟩), .pointer (some ⟨w.heap.size + 1, 0, none⟩)]) (by simp) (by simp [go_sem]) ?_
  refine (catch_one _ _ _).mono ?_
  rintro e u' w'' ⟨rfl, rfl, rfl⟩
  have c6 := (blk_cell q6 0).trans (show _ = some (Value.slice Av1 1 cv1) from rfl)
  have c7 := (blk_cell q7 0).trans (show _ = some (Value.bool true) from rfl)
  simp [Leaves, settle, results, Try.results13, go_sem, c6, c7]
  exact ⟨r1, hbF⟩
set_option maxHeartbeats 8000000 in
set_option maxRecDepth 100000 in
theorem decPow32 (k_ : Nat) (ad1 ad2 : Addr) (c1 c2 : Nat) (x y r : Int) (w : World) (h1 : w.cell? ad1 = some (.int .u64 x)) (h2 : w.cell? ad2 = some (.int .u64 y)) (hx : wrap64 x = wrap64 (wrap32 x)) (hx2 : wrap64 y = wrap64 (wrap32 y)) (hp : decimal_Decimal32_Pow.f k_ (wrap32 x) (wrap32 y) = some r) :
    Calls Try.prog 13 #[.int .i64 32, .slice (some ad1) 1 c1, .slice (some ad2) 1 c2] w fun e w' => ∃ v1, e = .returned (.tuple #[v1, .bool true]) ∧ Kd.R (Kd.int .u64) 25 w' w.heap.size (fun k_ => w.heap.size ≤ k_) v1 [IntKind.u64.wrap (wrap64 r)] ∧ Below w.heap.size w w' := by
  have hmf : ∀ (fn : Fn) (first cap : Array Value) (w : World), (Instr.makeFunc fn first cap).run Try.prog w = .ok (.func fn first cap) w := fun _ _ _ _ => rfl
  go_enter_defers Try.func13, Try.ntmps13
  go_wp2_with (go_at_call 23; fail)
  clear hmf
  refine calls_at ?_
  intro w0 hw0
  have B6_0 : w0.heap[w.heap.size]? = some (.cells #[.slice none 0 0] 22 (0, 0)) := by
    rw [hw0]; repeat (first | exact rfl | (refine blk_new_at ?_; solve | simp) | refine blk_alloc_ ?_ | refine blk_drew_ ?_ | (refine blk_other_ ?_ ?_; · omega))
  have B7_0 : w0.heap[w.heap.size + 1]? = some (.cells #[.bool false] 4 (0, 0)) := by
    rw [hw0]; repeat (first | exact rfl | (refine blk_new_at ?_; solve | simp) | refine blk_alloc_ ?_ | refine blk_drew_ ?_ | (refine blk_other_ ?_ ?_; · omega))
  have hb0 : Below w.heap.size w w0 := by rw [hw0]; exact below_alloc (below_alloc (Below.refl _ _) _) _
  have z0_0 : w.heap.size + 2 ≤ w0.heap.size := by rw [hw0]; simp; try omega
  clear hw0
  have h1_0 := keep hb0 h1
  have h2_0 := keep hb0 h2
  refine (decOf32 ad1 c1 x w0 h1_0 hx).mono ?_
  rintro e w1 ⟨rfl, hb_⟩
  have h2_1 := keep hb_ h2_0
  clear h1_0 h2_0 h1 h2
  have B6_1 := blk_below B6_0 hb_
  have B7_1 := blk_below B7_0 hb_
  clear B6_0 B7_0
  have HB1 := Lib.hid (hb0.trans (hb_.mono hb0.size))
  have z1_0 : w.heap.size + 2 ≤ w1.heap.size := Nat.le_trans z0_0 hb_.size
  clear hb_ hb0
  go_wp2_with (go_at_call 23; fail)
  refine calls_at ?_
  intro w2 hw2
  have B6_2 : w2.heap[w.heap.size]? = some (.cells #[.slice none 0 0] 22 (0, 0)) := by
    rw [hw2]; repeat (first | exact B6_1 | (refine blk_new_at ?_; solve | simp) | refine blk_alloc_ ?_ | refine blk_drew_ ?_ | (refine blk_other_ ?_ ?_; · omega))
  have B7_2 : w2.heap[w.heap.size + 1]? = some (.cells #[.bool false] 4 (0, 0)) := by
    rw [hw2]; repeat (first | exact B7_1 | (refine blk_new_at ?_; solve | simp) | refine blk_alloc_ ?_ | refine blk_drew_ ?_ | (refine blk_other_ ?_ ?_; · omega))
  have BX_2 : w2.heap[w1.heap.size]? = some (.cells #[.int .i64 32, .int .i32 (wrap32 x), .int .i64 0, .int .u64 0, .int .i64 0, .int .u64 0, .int .u64 0, .int .u64 0, .int .u64 0] 62 (0, 0)) := by
    rw [hw2]; repeat (first | exact rfl | (refine blk_new_at ?_; solve | simp) | refine blk_alloc_ ?_ | refine blk_drew_ ?_ | (refine blk_other_ ?_ ?_; · omega))
  have hb2 : Below w.heap.size w w2 := by rw [hw2]; exact below_alloc HB1.out _
  have z2_0 : w1.heap.size + 1 ≤ w2.heap.size := by rw [hw2]; simp; try omega
  have h2_2 : w2.cell? ad2 = some (.int .u64 y) := by rw [hw2]; exact keep (below_alloc (Below.refl _ _) _) h2_1
  clear hw2 h2_1
  clear B6_1 B7_1 HB1
  refine (decOf32 ad2 c2 y w2 h2_2 hx2).mono ?_
  rintro e w3 ⟨rfl, hb_⟩
  clear h2_2
  have B6_3 := blk_below B6_2 hb_
  have B7_3 := blk_below B7_2 hb_
  have BX_3 := blk_below BX_2 hb_
  clear B6_2 B7_2 BX_2
  have HB3 := Lib.hid (hb2.trans (hb_.mono hb2.size))
  have z3_0 : w1.heap.size + 1 ≤ w3.heap.size := Nat.le_trans z2_0 hb_.size
  clear hb_ hb2
  have cBX1 := alloced (show w3.cell? ⟨w1.heap.size, 1, none⟩ = some (.int .i32 (wrap32 x)) from (blk_cell BX_3 1).trans rfl)
  have fcBX1 := alloced_f (show w3.cell? ⟨w1.heap.size, 1, none⟩ = some (.int .i32 (wrap32 x)) from (blk_cell BX_3 1).trans rfl) (blk_frozen BX_3 1)
  go_wp2_with (go_at_call 33; fail)
  refine calls_at ?_
  intro w4 hw4
  have B6_4 : w4.heap[w.heap.size]? = some (.cells #[.slice none 0 0] 22 (0, 0)) := by
    rw [hw4]; repeat (first | exact B6_3 | (refine blk_new_at ?_; solve | simp) | refine blk_alloc_ ?_ | refine blk_drew_ ?_ | (refine blk_other_ ?_ ?_; · omega))
  have B7_4 : w4.heap[w.heap.size + 1]? = some (.cells #[.bool false] 4 (0, 0)) := by
    rw [hw4]; repeat (first | exact B7_3 | (refine blk_new_at ?_; solve | simp) | refine blk_alloc_ ?_ | refine blk_drew_ ?_ | (refine blk_other_ ?_ ?_; · omega))
  have BX_4 : w4.heap[w1.heap.size]? = some (.cells #[.int .i64 32, .int .i32 (wrap32 x), .int .i64 0, .int .u64 0, .int .i64 0, .int .u64 0, .int .u64 0, .int .u64 0, .int .u64 0] 62 (0, 0)) := by
    rw [hw4]; repeat (first | exact BX_3 | (refine blk_new_at ?_; solve | simp) | refine blk_alloc_ ?_ | refine blk_drew_ ?_ | (refine blk_other_ ?_ ?_; · omega))
  have hb4 : Below w.heap.size w w4 := by rw [hw4]; exact below_alloc HB3.out _
  have z4_0 : w3.heap.size + 1 ≤ w4.heap.size := by rw [hw4]; simp; try omega
  clear hw4
  clear cBX1 fcBX1
  clear B6_3 B7_3 BX_3 HB3
  refine (decimal_Decimal32_Pow.calls k_ (wrap32 x) (wrap32 y) r w4 hp).mono ?_
  rintro e w5 ⟨rfl, hd⟩
  have hb_ := drawn_below hd
  clear hd
  have B6_5 := blk_below B6_4 hb_
  have B7_5 := blk_below B7_4 hb_
  have BX_5 := blk_below BX_4 hb_
  clear B6_4 B7_4 BX_4
  have HB5 := Lib.hid (hb4.trans (hb_.mono hb4.size))
  clear hb_ hb4
  have cBX0 : w5.cell? ⟨w1.heap.size, 0, none⟩ = some (.int .i64 32) := (blk_cell BX_5 0).trans rfl
  have fcBX0 := blk_frozen BX_5 0
  have cBX1 : w5.cell? ⟨w1.heap.size, 1, none⟩ = some (.int .i32 (wrap32 x)) := (blk_cell BX_5 1).trans rfl
  have fcBX1 := blk_frozen BX_5 1
  have cBX2 : w5.cell? ⟨w1.heap.size, 2, none⟩ = some (.int .i64 0) := (blk_cell BX_5 2).trans rfl
  have fcBX2 := blk_frozen BX_5 2
  have cBX3 : w5.cell? ⟨w1.heap.size, 3, none⟩ = some (.int .u64 0) := (blk_cell BX_5 3).trans rfl
  have fcBX3 := blk_frozen BX_5 3
  have cBX4 : w5.cell? ⟨w1.heap.size, 4, none⟩ = some (.int .i64 0) := (blk_cell BX_5 4).trans rfl
  have fcBX4 := blk_frozen BX_5 4
  have cBX5 : w5.cell? ⟨w1.heap.size, 5, none⟩ = some (.int .u64 0) := (blk_cell BX_5 5).trans rfl
  have fcBX5 := blk_frozen BX_5 5
  have cBX6 : w5.cell? ⟨w1.heap.size, 6, none⟩ = some (.int .u64 0) := (blk_cell BX_5 6).trans rfl
  have fcBX6 := blk_frozen BX_5 6
  have cBX7 : w5.cell? ⟨w1.heap.size, 7, none⟩ = some (.int .u64 0) := (blk_cell BX_5 7).trans rfl
  have fcBX7 := blk_frozen BX_5 7
  have cBX8 : w5.cell? ⟨w1.heap.size, 8, none⟩ = some (.int .u64 0) := (blk_cell BX_5 8).trans rfl
  have fcBX8 := blk_frozen BX_5 8
  go_wp2_with (go_at_call 26; fail)
  refine calls_at ?_
  intro w6 hw6
  have B6_6 : w6.heap[w.heap.size]? = some (.cells #[.slice none 0 0] 22 (0, 0)) := by
    rw [hw6]; repeat (first | exact B6_5 | (refine blk_new_at ?_; solve | simp) | refine blk_alloc_ ?_ | refine blk_drew_ ?_ | (refine blk_other_ ?_ ?_; · omega))
  have B7_6 : w6.heap[w.heap.size + 1]? = some (.cells #[.bool false] 4 (0, 0)) := by
    rw [hw6]; repeat (first | exact B7_5 | (refine blk_new_at ?_; solve | simp) | refine blk_alloc_ ?_ | refine blk_drew_ ?_ | (refine blk_other_ ?_ ?_; · omega))
  have BX_6 : w6.heap[w1.heap.size]? = some (.cells #[.int .i64 32, .int .i32 r, .int .i64 0, .int .u64 0, .int .i64 0, .int .u64 0, .int .u64 0, .int .u64 0, .int .u64 0] 62 (0, 0)) := by
    rw [hw6]; repeat (first | exact BX_5 | (refine blk_new_at ?_; solve | simp) | refine blk_alloc_ ?_ | refine blk_drew_ ?_ | refine blk_put_at (cs := #[.int .i64 32, .int .i32 (wrap32 x), .int .i64 0, .int .u64 0, .int .i64 0, .int .u64 0, .int .u64 0, .int .u64 0, .int .u64 0]) (i := 1) ?_ rfl | (refine blk_other_ ?_ ?_; · omega))
  have hb6 : Below w.heap.size w w6 := by rw [hw6]; exact below_set HB5.out (by omega)
  clear hw6
  clear cBX0 fcBX0 cBX1 fcBX1 cBX2 fcBX2 cBX3 fcBX3 cBX4 fcBX4 cBX5 fcBX5 cBX6 fcBX6 cBX7 fcBX7 cBX8 fcBX8
  clear B6_5 B7_5 BX_5 HB5
  refine (words32 r 0 0 0 0 0 0 0 w6).mono ?_
  rintro e w7 ⟨v1, rfl, hR1, hb_⟩
  obtain ⟨Av1, cv1, rfl⟩ := Kd.R_slice hR1
  have l7 := blk_lt B7_6
  have hs7 := hb_.size
  have B6_7 := blk_below B6_6 hb_
  have B7_7 := blk_below B7_6 hb_
  have BX_7 := blk_below BX_6 hb_
  clear B6_6 B7_6 BX_6
  have HB7 := Lib.hid (hb6.trans (hb_.mono hb6.size))
  clear hb_ hb6
  have cB60 : w7.cell? ⟨w.heap.size, 0, none⟩ = some (.slice none 0 0) := (blk_cell B6_7 0).trans rfl
  have fcB60 := blk_frozen B6_7 0
  have cB70 : w7.cell? ⟨w.heap.size + 1, 0, none⟩ = some (.bool false) := (blk_cell B7_7 0).trans rfl
  have fcB70 := blk_frozen B7_7 0
  go_wp2_with (fail)
  clear cB60 fcB60 cB70 fcB70
  obtain ⟨wF, hwF⟩ : ∃ wF, wF = ((w7.setCell ⟨w.heap.size, 0, none⟩ (.slice Av1 1 cv1)).setCell ⟨w.heap.size + 1, 0, none⟩ (.bool true)) := ⟨_, rfl⟩
  rw [← hwF]
  have q6 : wF.heap[w.heap.size]? = some (.cells #[.slice Av1 1 cv1] 22 (0, 0)) := by
    rw [hwF]; refine blk_other_ (by omega) ?_; exact blk_put_at B6_7 rfl
  have k1 : (w7.setCell ⟨w.heap.size, 0, none⟩ (.slice Av1 1 cv1)).heap[w.heap.size + 1]? = some (.cells #[.bool false] 4 (0, 0)) := blk_other_ (by omega) B7_7
  have q7 : wF.heap[w.heap.size + 1]? = some (.cells #[.bool true] 4 (0, 0)) := by
    rw [hwF]; exact blk_put_at k1 rfl
  have rest : ∀ k, w6.heap.size ≤ k → wF.heap[k]? = w7.heap[k]? := by
    intro k hk
    rw [hwF]
    exact (heap_setCell_other _ _ _ _ (by simp only; omega)).trans (heap_setCell_other _ _ _ _ (by simp only; omega))
  have hbF : Below w.heap.size w wF := by rw [hwF]; exact below_set (below_set HB7.out (by omega)) (by omega)
  have r1 := Kd.R_lower (Kd.R_mono (Kd.R_move hR1 (w1 := wF) (fun k hk => rest k hk)) (fun k hk => (Nat.le_trans (by omega) hk : w.heap.size ≤ k))) (show w.heap.size ≤ w6.heap.size by omega)
  clear hwF rest hR1 k1
  refine leaves_cons (f := 32) (args := #[.pointer (some ⟨w.heap.size, 0, none⟩), .pointer (some ⟨w.heap.size + 1, 0, none⟩)]) (by simp) (by simp [go_sem]) ?_
  refine (catch_one _ _ _).mono ?_
  rintro e u' w'' ⟨rfl, rfl, rfl⟩
  have c6 := (blk_cell q6 0).trans (show _ = some (Value.slice Av1 1 cv1) from rfl)
  have c7 := (blk_cell q7 0).trans (show _ = some (Value.bool true) from rfl)
  simp [Leaves, settle, results, Try.results13, go_sem, c6, c7]
  exact ⟨r1, hbF⟩
end Go.Proofs.Ytiiicmfobljnaaa.V
