/- The walks of impl.DecSum: a sum, a difference. -/
import Derived.Test.YtiiicmfobljnaaaTS2
namespace Go.Proofs.Ytiiicmfobljnaaa.V
open Go.RowKit Go.Proofs.YtiiicmfobljnaaaW.PrintWords Go.Proofs.YtiiicmfobljnaaaW.PrintLast Go.Proofs.YtiiicmfobljnaaaW.PrintMore
set_option linter.unusedVariables false
set_option linter.unusedSimpArgs false
set_option maxHeartbeats 4000000 in
set_option maxRecDepth 100000 in
theorem decAdd (wd : Int) (S1 S2 : Value) (r : List Int) (x1 x2 x3 x4 x5 x6 x7 x8 y1 y2 y3 y4 y5 y6 y7 y8 z1 z2 z3 z4 z5 z6 z7 z8 : Int) (w : World)
    (hx : ∀ W, Below w.heap.size w W → Calls Try.prog 23 #[.int .i64 wd, S1] W fun e W' => e = .returned (.tuple #[decA wd x1 x2 x3 x4 x5 x6 x7 x8, .bool true]) ∧ Below W.heap.size W W')
    (hy : ∀ W, Below w.heap.size w W → Calls Try.prog 23 #[.int .i64 wd, S2] W fun e W' => e = .returned (.tuple #[decA wd y1 y2 y3 y4 y5 y6 y7 y8, .bool true]) ∧ Below W.heap.size W W')
    (h32 : ∀ W, Calls Try.prog 45 #[.int .i32 x1, .int .i32 y1] W fun e W' => e = .returned (.int .i32 z1) ∧ Below W.heap.size W W')
    (h64 : ∀ W, Calls Try.prog 46 #[.int .i64 x2, .int .i64 y2] W fun e W' => e = .returned (.int .i64 z2) ∧ Below W.heap.size W W')
    (h128 : ∀ W, Calls Try.prog 47 #[d128A x3 x4, d128A y3 y4] W fun e W' => e = .returned (d128A z3 z4) ∧ Below W.heap.size W W')
    (h256 : ∀ W, Calls Try.prog 48 #[d256A x5 x6 x7 x8, d256A y5 y6 y7 y8] W fun e W' => e = .returned (d256A z5 z6 z7 z8) ∧ Below W.heap.size W W')
    (hw : ∀ W, Calls Try.prog 26 #[decA wd z1 z2 z3 z4 z5 z6 z7 z8] W fun e W' => ∃ v, e = .returned v ∧ Kd.V (Kd.int .u64) 25 W' W.heap.size (fun k_ => W.heap.size ≤ k_) v r ∧ Below W.heap.size W W') :
    Calls Try.prog 18 #[.int .i64 wd, .bool false, S1, S2] w fun e w' => ∃ v, e = .returned (.tuple #[v, .bool true]) ∧ Kd.V (Kd.int .u64) 25 w' w.heap.size (fun k_ => w.heap.size ≤ k_) v r ∧ Below w.heap.size w w' := by
  have hmf : ∀ (fn : Fn) (first cap : Array Value) (w : World), (Instr.makeFunc fn first cap).run Try.prog w = .ok (.func fn first cap) w := fun _ _ _ _ => rfl
  go_enter_defers Try.func18, Try.ntmps18
  go_wp2_with (go_at_call 23; fail)
  clear hmf
  refine calls_at ?_
  intro w0 hw0
  have B6_0 : w0.heap[w.heap.size]? = some (.cells #[.slice none 0 0] 22 (0, 0)) := by
    rw [hw0]; exact blk_alloc_ (blk_new_at rfl)
  have B7_0 : w0.heap[w.heap.size + 1]? = some (.cells #[.bool false] 4 (0, 0)) := by
    rw [hw0]; exact blk_new_at (by simp)
  have hb0 : Below w.heap.size w w0 := by rw [hw0]; exact below_alloc (below_alloc (Below.refl _ _) _) _
  have sz0 : w.heap.size + 2 ≤ w0.heap.size := by rw [hw0]; simp
  clear hw0
  refine (hx w0 hb0).mono ?_
  rintro e w1 ⟨rfl, hb_⟩
  have B6_1 := blk_below B6_0 hb_
  have B7_1 := blk_below B7_0 hb_
  have hb1 := hb0.trans (hb_.mono hb0.size)
  have sz1 : w.heap.size + 2 ≤ w1.heap.size := Nat.le_trans sz0 hb_.size
  clear B6_0 B7_0 hb_ hb0 sz0 hx
  go_wp2_with (go_at_call 23; fail)
  refine calls_at ?_
  intro w2 hw2
  have B6_2 : w2.heap[w.heap.size]? = some (.cells #[.slice none 0 0] 22 (0, 0)) := by rw [hw2]; exact blk_alloc_ B6_1
  have B7_2 : w2.heap[w.heap.size + 1]? = some (.cells #[.bool false] 4 (0, 0)) := by rw [hw2]; exact blk_alloc_ B7_1
  have BX_2 : w2.heap[w1.heap.size]? = some (.cells #[.int .i64 wd, .int .i32 x1, .int .i64 x2, .int .u64 x3, .int .i64 x4, .int .u64 x5, .int .u64 x6, .int .u64 x7, .int .u64 x8] 62 (0, 0)) := by rw [hw2]; exact blk_new_at rfl
  have hb2 : Below w.heap.size w w2 := by rw [hw2]; exact below_alloc hb1 _
  have sz2 : w1.heap.size + 1 ≤ w2.heap.size := by rw [hw2]; simp
  clear hw2
  clear B6_1 B7_1 hb1
  refine (hy w2 hb2).mono ?_
  rintro e w3 ⟨rfl, hb_⟩
  have B6_3 := blk_below B6_2 hb_
  have B7_3 := blk_below B7_2 hb_
  have BX_3 := blk_below BX_2 hb_
  have hb3 := hb2.trans (hb_.mono hb2.size)
  have sz3 : w1.heap.size + 1 ≤ w3.heap.size := Nat.le_trans sz2 hb_.size
  clear B6_2 B7_2 BX_2 hb_ hb2 sz2 hy
  go_wp2_with (fail)
  refine wp_at ?_
  intro w4 hw4
  have B6_4 : w4.drew.heap[w.heap.size]? = some (.cells #[.slice none 0 0] 22 (0, 0)) := by rw [hw4]; exact blk_drew_ (blk_alloc_ B6_3)
  have B7_4 : w4.drew.heap[w.heap.size + 1]? = some (.cells #[.bool false] 4 (0, 0)) := by rw [hw4]; exact blk_drew_ (blk_alloc_ B7_3)
  have BX_4 : w4.drew.heap[w1.heap.size]? = some (.cells #[.int .i64 wd, .int .i32 x1, .int .i64 x2, .int .u64 x3, .int .i64 x4, .int .u64 x5, .int .u64 x6, .int .u64 x7, .int .u64 x8] 62 (0, 0)) := by rw [hw4]; exact blk_drew_ (blk_alloc_ BX_3)
  have BY_4 : w4.drew.heap[w3.heap.size]? = some (.cells #[.int .i64 wd, .int .i32 y1, .int .i64 y2, .int .u64 y3, .int .i64 y4, .int .u64 y5, .int .u64 y6, .int .u64 y7, .int .u64 y8] 62 (0, 0)) := by rw [hw4]; exact blk_drew_ (blk_new_at rfl)
  have hb4 : Below w.heap.size w w4.drew := by rw [hw4]; exact below_drew (below_alloc hb3 _)
  clear hw4 B6_3 B7_3 BX_3 hb3
  refine wp_region_noPanic ?_
  refine start_ (n := 23) (S := fun w' => w'.heap[w1.heap.size]? = some (.cells #[.int .i64 wd, .int .i32 x1, .int .i64 x2, .int .u64 x3, .int .i64 x4, .int .u64 x5, .int .u64 x6, .int .u64 x7, .int .u64 x8] 62 (0, 0)) ∧ w'.heap[w3.heap.size]? = some (.cells #[.int .i64 wd, .int .i32 y1, .int .i64 y2, .int .u64 y3, .int .i64 y4, .int .u64 y5, .int .u64 y6, .int .u64 y7, .int .u64 y8] 62 (0, 0))) (ds := [22]) #[false, false, false, false, false, false, false, false, false, false, false, false, false, false, false, false, false, false, false, false, false, false, false] (by kernel_rfl) rfl rfl ⟨BX_4, BY_4⟩ (fun hHeld => ?_)
  generalize w4.drew = w5 at *
  refine pure_ (i := 0) (N := some 26) (v := ?_) (a' := ?_) #[true, false, false, false, false, false, false, false, false, false, false, false, false, false, false, false, false, false, false, false, false, false, false] rfl rfl (by kernel_rfl) (fun _ _ _ h => h) (Or.inl ⟨by rfl, ?_⟩) ?_ ?_
  rotate_left
  · intro w'
    go_simp
    with_reducible rfl
  rotate_left
  · simp only [Act.put, s1_, s2_, s3_, i64_w, i32_w]
    rfl
  refine pure_ (i := 1) (N := some 27) (v := ?_) (a' := ?_) #[true, true, false, false, false, false, false, false, false, false, false, false, false, false, false, false, false, false, false, false, false, false, false] rfl rfl (by kernel_rfl) (fun _ _ _ h => h) (Or.inl ⟨by rfl, ?_⟩) ?_ ?_
  rotate_left
  · intro w'
    go_simp
    with_reducible rfl
  rotate_left
  · simp only [Act.put, s1_, s2_, s3_, i64_w, i32_w]
    rfl
  refine pure_ (i := 3) (N := some 29) (v := ?_) (a' := ?_) #[true, true, false, true, false, false, false, false, false, false, false, false, false, false, false, false, false, false, false, false, false, false, false] rfl rfl (by kernel_rfl) (fun _ _ _ h => h) (Or.inl ⟨by rfl, ?_⟩) ?_ ?_
  rotate_left
  · intro w'
    go_simp
    with_reducible rfl
  rotate_left
  · simp only [Act.put, s1_, s2_, s3_, i64_w, i32_w]
    rfl
  refine pure_ (i := 6) (N := some 32) (v := ?_) (a' := ?_) #[true, true, false, true, false, false, true, false, false, false, false, false, false, false, false, false, false, false, false, false, false, false, false] rfl rfl (by kernel_rfl) (fun _ _ _ h => h) (Or.inl ⟨by rfl, ?_⟩) ?_ ?_
  rotate_left
  · intro w'
    go_simp
    with_reducible rfl
  rotate_left
  · simp only [Act.put, s1_, s2_, s3_, i64_w, i32_w]
    rfl
  refine pure_ (i := 8) (N := some 34) (v := ?_) (a' := ?_) #[true, true, false, true, false, false, true, false, true, false, false, false, false, false, false, false, false, false, false, false, false, false, false] rfl rfl (by kernel_rfl) (fun _ _ _ h => h) (Or.inl ⟨by rfl, ?_⟩) ?_ ?_
  rotate_left
  · intro w'
    go_simp
    with_reducible rfl
  rotate_left
  · simp only [Act.put, s1_, s2_, s3_, i64_w, i32_w]
    rfl
  refine pure_ (i := 11) (N := some 37) (v := ?_) (a' := ?_) #[true, true, false, true, false, false, true, false, true, false, false, true, false, false, false, false, false, false, false, false, false, false, false] rfl rfl (by kernel_rfl) (fun _ _ _ h => h) (Or.inl ⟨by rfl, ?_⟩) ?_ ?_
  rotate_left
  · intro w'
    go_simp
    with_reducible rfl
  rotate_left
  · simp only [Act.put, s1_, s2_, s3_, i64_w, i32_w]
    rfl
  refine pure_ (i := 13) (N := some 39) (v := ?_) (a' := ?_) #[true, true, false, true, false, false, true, false, true, false, false, true, false, true, false, false, false, false, false, false, false, false, false] rfl rfl (by kernel_rfl) (fun _ _ _ h => h) (Or.inl ⟨by rfl, ?_⟩) ?_ ?_
  rotate_left
  · intro w'
    go_simp
    with_reducible rfl
  rotate_left
  · simp only [Act.put, s1_, s2_, s3_, i64_w, i32_w]
    rfl
  refine pure_ (i := 16) (N := some 42) (v := ?_) (a' := ?_) #[true, true, false, true, false, false, true, false, true, false, false, true, false, true, false, false, true, false, false, false, false, false, false] rfl rfl (by kernel_rfl) (fun _ _ _ h => h) (Or.inl ⟨by rfl, ?_⟩) ?_ ?_
  rotate_left
  · intro w'
    go_simp
    with_reducible rfl
  rotate_left
  · simp only [Act.put, s1_, s2_, s3_, i64_w, i32_w]
    rfl
  refine pure_ (i := 18) (N := some 44) (v := ?_) (a' := ?_) #[true, true, false, true, false, false, true, false, true, false, false, true, false, true, false, false, true, false, true, false, false, false, false] rfl rfl (by kernel_rfl) (fun _ _ _ h => h) (Or.inl ⟨by rfl, ?_⟩) ?_ ?_
  rotate_left
  · intro w'
    go_simp
    with_reducible rfl
  rotate_left
  · simp only [Act.put, s1_, s2_, s3_, i64_w, i32_w]
    rfl
  refine take_ (i := 2) (N := some 28) (v := ?_) (a' := ?_) #[true, true, true, true, false, false, true, false, true, false, false, true, false, true, false, false, true, false, true, false, false, false, false] rfl rfl (by kernel_rfl) (fun _ _ _ h => h) (Or.inl ⟨by rfl, ?_⟩) hHeld ?_ ?_
  rotate_left
  · intro w' s0
    have d1 : w'.cell? ⟨w1.heap.size, 1, none⟩ = some (.int .i32 x1) := (blk_cell s0.1 1).trans rfl
    clear s0
    go_simp
    with_reducible rfl
  rotate_left
  · simp only [Act.put, s1_, s2_, s3_, i64_w, i32_w]
    rfl
  refine take_ (i := 4) (N := some 30) (v := ?_) (a' := ?_) #[true, true, true, true, true, false, true, false, true, false, false, true, false, true, false, false, true, false, true, false, false, false, false] rfl rfl (by kernel_rfl) (fun _ _ _ h => h) (Or.inl ⟨by rfl, ?_⟩) hHeld ?_ ?_
  rotate_left
  · intro w' s0
    have d1 : w'.cell? ⟨w3.heap.size, 1, none⟩ = some (.int .i32 y1) := (blk_cell s0.2 1).trans rfl
    clear s0
    go_simp
    with_reducible rfl
  rotate_left
  · simp only [Act.put, s1_, s2_, s3_, i64_w, i32_w]
    rfl
  refine take_ (i := 7) (N := some 33) (v := ?_) (a' := ?_) #[true, true, true, true, true, false, true, true, true, false, false, true, false, true, false, false, true, false, true, false, false, false, false] rfl rfl (by kernel_rfl) (fun _ _ _ h => h) (Or.inl ⟨by rfl, ?_⟩) hHeld ?_ ?_
  rotate_left
  · intro w' s0
    have d2 : w'.cell? ⟨w1.heap.size, 2, none⟩ = some (.int .i64 x2) := (blk_cell s0.1 2).trans rfl
    clear s0
    go_simp
    with_reducible rfl
  rotate_left
  · simp only [Act.put, s1_, s2_, s3_, i64_w, i32_w]
    rfl
  refine take_ (i := 9) (N := some 35) (v := ?_) (a' := ?_) #[true, true, true, true, true, false, true, true, true, true, false, true, false, true, false, false, true, false, true, false, false, false, false] rfl rfl (by kernel_rfl) (fun _ _ _ h => h) (Or.inl ⟨by rfl, ?_⟩) hHeld ?_ ?_
  rotate_left
  · intro w' s0
    have d2 : w'.cell? ⟨w3.heap.size, 2, none⟩ = some (.int .i64 y2) := (blk_cell s0.2 2).trans rfl
    clear s0
    go_simp
    with_reducible rfl
  rotate_left
  · simp only [Act.put, s1_, s2_, s3_, i64_w, i32_w]
    rfl
  refine take_ (i := 12) (N := some 38) (v := ?_) (a' := ?_) #[true, true, true, true, true, false, true, true, true, true, false, true, true, true, false, false, true, false, true, false, false, false, false] rfl rfl (by kernel_rfl) (fun _ _ _ h => h) (Or.inl ⟨by rfl, ?_⟩) hHeld ?_ ?_
  rotate_left
  · intro w' s0
    have d3 : w'.cell? ⟨w1.heap.size, 3, none⟩ = some (.int .u64 x3) := (blk_cell s0.1 3).trans rfl
    have d4 : w'.cell? ⟨w1.heap.size, 4, none⟩ = some (.int .i64 x4) := (blk_cell s0.1 4).trans rfl
    clear s0
    go_simp
    with_reducible rfl
  rotate_left
  · simp only [Act.put, s1_, s2_, s3_, i64_w, i32_w]
    rfl
  refine take_ (i := 14) (N := some 40) (v := ?_) (a' := ?_) #[true, true, true, true, true, false, true, true, true, true, false, true, true, true, true, false, true, false, true, false, false, false, false] rfl rfl (by kernel_rfl) (fun _ _ _ h => h) (Or.inl ⟨by rfl, ?_⟩) hHeld ?_ ?_
  rotate_left
  · intro w' s0
    have d3 : w'.cell? ⟨w3.heap.size, 3, none⟩ = some (.int .u64 y3) := (blk_cell s0.2 3).trans rfl
    have d4 : w'.cell? ⟨w3.heap.size, 4, none⟩ = some (.int .i64 y4) := (blk_cell s0.2 4).trans rfl
    clear s0
    go_simp
    with_reducible rfl
  rotate_left
  · simp only [Act.put, s1_, s2_, s3_, i64_w, i32_w]
    rfl
  refine take_ (i := 17) (N := some 43) (v := ?_) (a' := ?_) #[true, true, true, true, true, false, true, true, true, true, false, true, true, true, true, false, true, true, true, false, false, false, false] rfl rfl (by kernel_rfl) (fun _ _ _ h => h) (Or.inl ⟨by rfl, ?_⟩) hHeld ?_ ?_
  rotate_left
  · intro w' s0
    have d5 : w'.cell? ⟨w1.heap.size, 5, none⟩ = some (.int .u64 x5) := (blk_cell s0.1 5).trans rfl
    have d6 : w'.cell? ⟨w1.heap.size, 6, none⟩ = some (.int .u64 x6) := (blk_cell s0.1 6).trans rfl
    have d7 : w'.cell? ⟨w1.heap.size, 7, none⟩ = some (.int .u64 x7) := (blk_cell s0.1 7).trans rfl
    have d8 : w'.cell? ⟨w1.heap.size, 8, none⟩ = some (.int .u64 x8) := (blk_cell s0.1 8).trans rfl
    clear s0
    go_simp
    with_reducible rfl
  rotate_left
  · simp only [Act.put, s1_, s2_, s3_, i64_w, i32_w]
    rfl
  refine take_ (i := 19) (N := some 45) (v := ?_) (a' := ?_) #[true, true, true, true, true, false, true, true, true, true, false, true, true, true, true, false, true, true, true, true, false, false, false] rfl rfl (by kernel_rfl) (fun _ _ _ h => h) (Or.inl ⟨by rfl, ?_⟩) hHeld ?_ ?_
  rotate_left
  · intro w' s0
    have d5 : w'.cell? ⟨w3.heap.size, 5, none⟩ = some (.int .u64 y5) := (blk_cell s0.2 5).trans rfl
    have d6 : w'.cell? ⟨w3.heap.size, 6, none⟩ = some (.int .u64 y6) := (blk_cell s0.2 6).trans rfl
    have d7 : w'.cell? ⟨w3.heap.size, 7, none⟩ = some (.int .u64 y7) := (blk_cell s0.2 7).trans rfl
    have d8 : w'.cell? ⟨w3.heap.size, 8, none⟩ = some (.int .u64 y8) := (blk_cell s0.2 8).trans rfl
    clear s0
    go_simp
    with_reducible rfl
  rotate_left
  · simp only [Act.put, s1_, s2_, s3_, i64_w, i32_w]
    rfl
  refine one_ (i := 5) (N := some 31) #[true, true, true, true, true, true, true, true, true, true, false, true, true, true, true, false, true, true, true, true, false, false, false] rfl rfl (by kernel_rfl) (by decide) (fun K hK => ?_)
  refine goes_ Try.func45 (by kernel_rfl) rfl #[.int .i32 x1, .int .i32 y1] (by rfl) rfl rfl (by (try simp only [List.map_toArray, List.map_cons, List.map_nil]); rfl) ?_
  refine (h32 w5).mono ?_
  rintro e w6 ⟨rfl, hb_⟩
  refine ⟨_, rfl, ?_⟩
  have B6_5 := blk_below B6_4 hb_
  have B7_5 := blk_below B7_4 hb_
  have BX_5 := blk_below BX_4 hb_
  have BY_5 := blk_below BY_4 hb_
  have hb5 := hb4.trans (hb_.mono hb4.size)
  clear B6_4 B7_4 BX_4 BY_4 hb4
  refine hK.out _ _ ⟨BX_5, BY_5⟩ (fun hHeld2 => ?_)
  clear hK K hb_ hHeld
  have hHeld := hHeld2
  clear hHeld2
  refine norm_ (a' := ?_) ?_ ?_
  rotate_left
  · show Act.put _ (some 31) _ = _
    simp only [Act.put, s1_, s2_, s3_]
    rfl
  refine one_ (i := 10) (N := some 36) #[true, true, true, true, true, true, true, true, true, true, true, true, true, true, true, false, true, true, true, true, false, false, false] rfl rfl (by kernel_rfl) (by decide) (fun K hK => ?_)
  refine goes_ Try.func46 (by kernel_rfl) rfl #[.int .i64 x2, .int .i64 y2] (by rfl) rfl rfl (by (try simp only [List.map_toArray, List.map_cons, List.map_nil]); rfl) ?_
  refine (h64 w6).mono ?_
  rintro e w7 ⟨rfl, hb_⟩
  refine ⟨_, rfl, ?_⟩
  have B6_6 := blk_below B6_5 hb_
  have B7_6 := blk_below B7_5 hb_
  have BX_6 := blk_below BX_5 hb_
  have BY_6 := blk_below BY_5 hb_
  have hb6 := hb5.trans (hb_.mono hb5.size)
  clear B6_5 B7_5 BX_5 BY_5 hb5
  refine hK.out _ _ ⟨BX_6, BY_6⟩ (fun hHeld2 => ?_)
  clear hK K hb_ hHeld
  have hHeld := hHeld2
  clear hHeld2
  refine norm_ (a' := ?_) ?_ ?_
  rotate_left
  · show Act.put _ (some 36) _ = _
    simp only [Act.put, s1_, s2_, s3_]
    rfl
  refine one_ (i := 15) (N := some 41) #[true, true, true, true, true, true, true, true, true, true, true, true, true, true, true, true, true, true, true, true, false, false, false] rfl rfl (by kernel_rfl) (by decide) (fun K hK => ?_)
  refine goes_ Try.func47 (by kernel_rfl) rfl #[d128A x3 x4, d128A y3 y4] (by rfl) rfl rfl (by (try simp only [List.map_toArray, List.map_cons, List.map_nil]); rfl) ?_
  refine (h128 w7).mono ?_
  rintro e w8 ⟨rfl, hb_⟩
  refine ⟨_, rfl, ?_⟩
  have B6_7 := blk_below B6_6 hb_
  have B7_7 := blk_below B7_6 hb_
  have BX_7 := blk_below BX_6 hb_
  have BY_7 := blk_below BY_6 hb_
  have hb7 := hb6.trans (hb_.mono hb6.size)
  clear B6_6 B7_6 BX_6 BY_6 hb6
  refine hK.out _ _ ⟨BX_7, BY_7⟩ (fun hHeld2 => ?_)
  clear hK K hb_ hHeld
  have hHeld := hHeld2
  clear hHeld2
  refine norm_ (a' := ?_) ?_ ?_
  rotate_left
  · show Act.put _ (some 41) _ = _
    simp only [Act.put, s1_, s2_, s3_]
    rfl
  refine one_ (i := 20) (N := some 46) #[true, true, true, true, true, true, true, true, true, true, true, true, true, true, true, true, true, true, true, true, true, false, false] rfl rfl (by kernel_rfl) (by decide) (fun K hK => ?_)
  refine goes_ Try.func48 (by kernel_rfl) rfl #[d256A x5 x6 x7 x8, d256A y5 y6 y7 y8] (by rfl) rfl rfl (by (try simp only [List.map_toArray, List.map_cons, List.map_nil]); rfl) ?_
  refine (h256 w8).mono ?_
  rintro e w9 ⟨rfl, hb_⟩
  refine ⟨_, rfl, ?_⟩
  have B6_8 := blk_below B6_7 hb_
  have B7_8 := blk_below B7_7 hb_
  have BX_8 := blk_below BX_7 hb_
  have BY_8 := blk_below BY_7 hb_
  have hb8 := hb7.trans (hb_.mono hb7.size)
  clear B6_7 B7_7 BX_7 BY_7 hb7
  refine hK.out _ _ ⟨BX_8, BY_8⟩ (fun hHeld2 => ?_)
  clear hK K hb_ hHeld
  have hHeld := hHeld2
  clear hHeld2
  refine norm_ (a' := ?_) ?_ ?_
  rotate_left
  · show Act.put _ (some 46) _ = _
    simp only [Act.put, s1_, s2_, s3_]
    rfl
  refine pure_ (i := 21) (N := some 47) (v := ?_) (a' := ?_) #[true, true, true, true, true, true, true, true, true, true, true, true, true, true, true, true, true, true, true, true, true, true, false] rfl rfl (by kernel_rfl) (fun _ _ _ h => h) (Or.inl ⟨by rfl, ?_⟩) ?_ ?_
  rotate_left
  · intro w'
    go_simp
    with_reducible rfl
  rotate_left
  · simp only [Act.put, s1_, s2_, s3_, i64_w, i32_w]
    rfl
  obtain ⟨wF, hwF⟩ : ∃ wF, wF = (((((((((w9.setCell ⟨w1.heap.size, 0, none⟩ (.int .i64 wd)).setCell ⟨w1.heap.size, 1, none⟩ (.int .i32 z1)).setCell ⟨w1.heap.size, 2, none⟩ (.int .i64 z2)).setCell ⟨w1.heap.size, 3, none⟩ (.int .u64 z3)).setCell ⟨w1.heap.size, 4, none⟩ (.int .i64 z4)).setCell ⟨w1.heap.size, 5, none⟩ (.int .u64 z5)).setCell ⟨w1.heap.size, 6, none⟩ (.int .u64 z6)).setCell ⟨w1.heap.size, 7, none⟩ (.int .u64 z7)).setCell ⟨w1.heap.size, 8, none⟩ (.int .u64 z8)) := ⟨_, rfl⟩
  have l3 := blk_lt BY_8
  have hne : w3.heap.size ≠ w1.heap.size := by omega
  have fx := fun (i : Nat) (u : Value) (W : World) (g : Nat) (o : Obj) (hg : g ≠ w1.heap.size) (h : W.heap[g]? = some o) => blk_other_ (i := i) (u := u) hg h
  have far : ∀ g o, g ≠ w1.heap.size → w9.heap[g]? = some o → wF.heap[g]? = some o := by
    intro g o hg h
    rw [hwF]
    exact blk_other_ hg (blk_other_ hg (blk_other_ hg (blk_other_ hg (blk_other_ hg (blk_other_ hg (blk_other_ hg (blk_other_ hg (blk_other_ hg h))))))))
  have B6_9 := far _ _ (by omega) B6_8
  have B7_9 := far _ _ (by omega) B7_8
  have BX_9 : wF.heap[w1.heap.size]? = some (.cells #[.int .i64 wd, .int .i32 z1, .int .i64 z2, .int .u64 z3, .int .i64 z4, .int .u64 z5, .int .u64 z6, .int .u64 z7, .int .u64 z8] 62 (0, 0)) := by rw [hwF]; exact put9 BX_8 (.int .i64 wd) (.int .i32 z1) (.int .i64 z2) (.int .u64 z3) (.int .i64 z4) (.int .u64 z5) (.int .u64 z6) (.int .u64 z7) (.int .u64 z8)
  have hb9 : Below w.heap.size w wF := by rw [hwF]; exact below9 hb8 (by omega) (.int .i64 wd) (.int .i32 z1) (.int .i64 z2) (.int .u64 z3) (.int .i64 z4) (.int .u64 z5) (.int .u64 z6) (.int .u64 z7) (.int .u64 z8)
  have z0_ : w9.cell? ⟨w1.heap.size, 0, none⟩ = some (.int .i64 wd) := (blk_cell BX_8 0).trans rfl
  have y0_ := blk_frozen BX_8 0
  have z1_ : w9.cell? ⟨w1.heap.size, 1, none⟩ = some (.int .i32 x1) := (blk_cell BX_8 1).trans rfl
  have y1_ := blk_frozen BX_8 1
  have z2_ : w9.cell? ⟨w1.heap.size, 2, none⟩ = some (.int .i64 x2) := (blk_cell BX_8 2).trans rfl
  have y2_ := blk_frozen BX_8 2
  have z3_ : w9.cell? ⟨w1.heap.size, 3, none⟩ = some (.int .u64 x3) := (blk_cell BX_8 3).trans rfl
  have y3_ := blk_frozen BX_8 3
  have z4_ : w9.cell? ⟨w1.heap.size, 4, none⟩ = some (.int .i64 x4) := (blk_cell BX_8 4).trans rfl
  have y4_ := blk_frozen BX_8 4
  have z5_ : w9.cell? ⟨w1.heap.size, 5, none⟩ = some (.int .u64 x5) := (blk_cell BX_8 5).trans rfl
  have y5_ := blk_frozen BX_8 5
  have z6_ : w9.cell? ⟨w1.heap.size, 6, none⟩ = some (.int .u64 x6) := (blk_cell BX_8 6).trans rfl
  have y6_ := blk_frozen BX_8 6
  have z7_ : w9.cell? ⟨w1.heap.size, 7, none⟩ = some (.int .u64 x7) := (blk_cell BX_8 7).trans rfl
  have y7_ := blk_frozen BX_8 7
  have z8_ : w9.cell? ⟨w1.heap.size, 8, none⟩ = some (.int .u64 x8) := (blk_cell BX_8 8).trans rfl
  have y8_ := blk_frozen BX_8 8
  clear far fx
  refine last_ (i := 22) (N := none) #[true, true, true, true, true, true, true, true, true, true, true, true, true, true, true, true, true, true, true, true, true, true, true] rfl rfl (by kernel_rfl) (by decide) (fun K hK => ?_)
  refine skip_ (w1 := wF) (by rfl) rfl ?_ ?_
  · clear B6_9 B7_9 BX_9 hb9 B6_8 B7_8 BX_8 BY_8 hb8 hHeld hne
    have HF := Lib.hid hwF
    clear hwF
    go_simp
    rw [HF.out]
  refine hK.out _ _ ?_
  clear hK K hHeld hwF hne B6_8 B7_8 BX_8 BY_8 hb8 z0_ y0_ z1_ y1_ z2_ y2_ z3_ y3_ z4_ y4_ z5_ y5_ z6_ y6_ z7_ y7_ z8_ y8_
  refine done_ (by kernel_rfl) ?_
  refine NoPanic.normal ?_
  have z0_ : wF.cell? ⟨w1.heap.size, 0, none⟩ = some (.int .i64 wd) := (blk_cell BX_9 0).trans rfl
  have y0_ := blk_frozen BX_9 0
  have z1_ : wF.cell? ⟨w1.heap.size, 1, none⟩ = some (.int .i32 z1) := (blk_cell BX_9 1).trans rfl
  have y1_ := blk_frozen BX_9 1
  have z2_ : wF.cell? ⟨w1.heap.size, 2, none⟩ = some (.int .i64 z2) := (blk_cell BX_9 2).trans rfl
  have y2_ := blk_frozen BX_9 2
  have z3_ : wF.cell? ⟨w1.heap.size, 3, none⟩ = some (.int .u64 z3) := (blk_cell BX_9 3).trans rfl
  have y3_ := blk_frozen BX_9 3
  have z4_ : wF.cell? ⟨w1.heap.size, 4, none⟩ = some (.int .i64 z4) := (blk_cell BX_9 4).trans rfl
  have y4_ := blk_frozen BX_9 4
  have z5_ : wF.cell? ⟨w1.heap.size, 5, none⟩ = some (.int .u64 z5) := (blk_cell BX_9 5).trans rfl
  have y5_ := blk_frozen BX_9 5
  have z6_ : wF.cell? ⟨w1.heap.size, 6, none⟩ = some (.int .u64 z6) := (blk_cell BX_9 6).trans rfl
  have y6_ := blk_frozen BX_9 6
  have z7_ : wF.cell? ⟨w1.heap.size, 7, none⟩ = some (.int .u64 z7) := (blk_cell BX_9 7).trans rfl
  have y7_ := blk_frozen BX_9 7
  have z8_ : wF.cell? ⟨w1.heap.size, 8, none⟩ = some (.int .u64 z8) := (blk_cell BX_9 8).trans rfl
  have y8_ := blk_frozen BX_9 8
  go_wp2_with (go_at_call 26; fail)
  clear z0_ y0_ z1_ y1_ z2_ y2_ z3_ y3_ z4_ y4_ z5_ y5_ z6_ y6_ z7_ y7_ z8_ y8_ BX_9
  have l9 := blk_lt B7_9
  refine (hw wF).mono ?_
  rintro e w10 ⟨v1, rfl, hR1, hb_⟩
  obtain ⟨Av1, cv1, rfl⟩ := Kd.V_slice hR1
  have B6_10 := blk_below B6_9 hb_
  have B7_10 := blk_below B7_9 hb_
  have hb10 := hb9.trans (hb_.mono hb9.size)
  have s10 := hb_.size
  clear hb_ hb9 B6_9 B7_9 hw h32 h64 h128 h256
  have cB60 : w10.cell? ⟨w.heap.size, 0, none⟩ = some (.slice none 0 0) := (blk_cell B6_10 0).trans rfl
  have fcB60 := blk_frozen B6_10 0
  have cB70 : w10.cell? ⟨w.heap.size + 1, 0, none⟩ = some (.bool false) := (blk_cell B7_10 0).trans rfl
  have fcB70 := blk_frozen B7_10 0
  go_wp2_with (fail)
  clear cB60 fcB60 cB70 fcB70
  obtain ⟨wG, hwG⟩ : ∃ wG, wG = ((w10.setCell ⟨w.heap.size, 0, none⟩ (.slice Av1 r.length cv1)).setCell ⟨w.heap.size + 1, 0, none⟩ (.bool true)) := ⟨_, rfl⟩
  rw [← hwG]
  have q6 : wG.heap[w.heap.size]? = some (.cells #[.slice Av1 r.length cv1] 22 (0, 0)) := by
    rw [hwG]; refine blk_other_ (by omega) ?_; exact blk_put_at B6_10 rfl
  have k1 : (w10.setCell ⟨w.heap.size, 0, none⟩ (.slice Av1 r.length cv1)).heap[w.heap.size + 1]? = some (.cells #[.bool false] 4 (0, 0)) := blk_other_ (by omega) B7_10
  have q7 : wG.heap[w.heap.size + 1]? = some (.cells #[.bool true] 4 (0, 0)) := by
    rw [hwG]; exact blk_put_at k1 rfl
  have hbG : Below w.heap.size w wG := by rw [hwG]; exact below_set (below_set hb10 (by omega)) (by omega)
  have r1 : Kd.V (Kd.int .u64) 25 wG w.heap.size (fun k_ => w.heap.size ≤ k_) (.slice Av1 r.length cv1) r := by
    rw [hwG]
    exact Kd.V_mono (Kd.V_far (Kd.V_far hR1 (fun k (hk : wF.heap.size ≤ k) => (by omega : k ≠ w.heap.size)) _) (fun k (hk : wF.heap.size ≤ k) => (by omega : k ≠ w.heap.size + 1)) _) (fun k (hk : wF.heap.size ≤ k) => (by omega : w.heap.size ≤ k))
  clear hwG hR1 k1 B6_10 B7_10 hb10
  refine leaves_cons (f := 32) (args := #[.pointer (some ⟨w.heap.size, 0, none⟩), .pointer (some ⟨w.heap.size + 1, 0, none⟩)]) (by simp) (by simp [go_sem]) ?_
  refine (catch_one _ _ _).mono ?_
  rintro e u' w'' ⟨rfl, rfl, rfl⟩
  have c6 := (blk_cell q6 0).trans (show _ = some (Value.slice Av1 r.length cv1) from rfl)
  have c7 := (blk_cell q7 0).trans (show _ = some (Value.bool true) from rfl)
  simp [Leaves, settle, results, Try.results18, go_sem, c6, c7]
  exact ⟨r1, hbG⟩
set_option maxHeartbeats 4000000 in
set_option maxRecDepth 100000 in
theorem decSub (wd : Int) (S1 S2 : Value) (r : List Int) (x1 x2 x3 x4 x5 x6 x7 x8 y1 y2 y3 y4 y5 y6 y7 y8 z1 z2 z3 z4 z5 z6 z7 z8 : Int) (w : World)
    (hx : ∀ W, Below w.heap.size w W → Calls Try.prog 23 #[.int .i64 wd, S1] W fun e W' => e = .returned (.tuple #[decA wd x1 x2 x3 x4 x5 x6 x7 x8, .bool true]) ∧ Below W.heap.size W W')
    (hy : ∀ W, Below w.heap.size w W → Calls Try.prog 23 #[.int .i64 wd, S2] W fun e W' => e = .returned (.tuple #[decA wd y1 y2 y3 y4 y5 y6 y7 y8, .bool true]) ∧ Below W.heap.size W W')
    (h32 : ∀ W, Calls Try.prog 41 #[.int .i32 x1, .int .i32 y1] W fun e W' => e = .returned (.int .i32 z1) ∧ Below W.heap.size W W')
    (h64 : ∀ W, Calls Try.prog 42 #[.int .i64 x2, .int .i64 y2] W fun e W' => e = .returned (.int .i64 z2) ∧ Below W.heap.size W W')
    (h128 : ∀ W, Calls Try.prog 43 #[d128A x3 x4, d128A y3 y4] W fun e W' => e = .returned (d128A z3 z4) ∧ Below W.heap.size W W')
    (h256 : ∀ W, Calls Try.prog 44 #[d256A x5 x6 x7 x8, d256A y5 y6 y7 y8] W fun e W' => e = .returned (d256A z5 z6 z7 z8) ∧ Below W.heap.size W W')
    (hw : ∀ W, Calls Try.prog 26 #[decA wd z1 z2 z3 z4 z5 z6 z7 z8] W fun e W' => ∃ v, e = .returned v ∧ Kd.V (Kd.int .u64) 25 W' W.heap.size (fun k_ => W.heap.size ≤ k_) v r ∧ Below W.heap.size W W') :
    Calls Try.prog 18 #[.int .i64 wd, .bool true, S1, S2] w fun e w' => ∃ v, e = .returned (.tuple #[v, .bool true]) ∧ Kd.V (Kd.int .u64) 25 w' w.heap.size (fun k_ => w.heap.size ≤ k_) v r ∧ Below w.heap.size w w' := by
  have hmf : ∀ (fn : Fn) (first cap : Array Value) (w : World), (Instr.makeFunc fn first cap).run Try.prog w = .ok (.func fn first cap) w := fun _ _ _ _ => rfl
  go_enter_defers Try.func18, Try.ntmps18
  go_wp2_with (go_at_call 23; fail)
  clear hmf
  refine calls_at ?_
  intro w0 hw0
  have B6_0 : w0.heap[w.heap.size]? = some (.cells #[.slice none 0 0] 22 (0, 0)) := by
    rw [hw0]; exact blk_alloc_ (blk_new_at rfl)
  have B7_0 : w0.heap[w.heap.size + 1]? = some (.cells #[.bool false] 4 (0, 0)) := by
    rw [hw0]; exact blk_new_at (by simp)
  have hb0 : Below w.heap.size w w0 := by rw [hw0]; exact below_alloc (below_alloc (Below.refl _ _) _) _
  have sz0 : w.heap.size + 2 ≤ w0.heap.size := by rw [hw0]; simp
  clear hw0
  refine (hx w0 hb0).mono ?_
  rintro e w1 ⟨rfl, hb_⟩
  have B6_1 := blk_below B6_0 hb_
  have B7_1 := blk_below B7_0 hb_
  have hb1 := hb0.trans (hb_.mono hb0.size)
  have sz1 : w.heap.size + 2 ≤ w1.heap.size := Nat.le_trans sz0 hb_.size
  clear B6_0 B7_0 hb_ hb0 sz0 hx
  go_wp2_with (go_at_call 23; fail)
  refine calls_at ?_
  intro w2 hw2
  have B6_2 : w2.heap[w.heap.size]? = some (.cells #[.slice none 0 0] 22 (0, 0)) := by rw [hw2]; exact blk_alloc_ B6_1
  have B7_2 : w2.heap[w.heap.size + 1]? = some (.cells #[.bool false] 4 (0, 0)) := by rw [hw2]; exact blk_alloc_ B7_1
  have BX_2 : w2.heap[w1.heap.size]? = some (.cells #[.int .i64 wd, .int .i32 x1, .int .i64 x2, .int .u64 x3, .int .i64 x4, .int .u64 x5, .int .u64 x6, .int .u64 x7, .int .u64 x8] 62 (0, 0)) := by rw [hw2]; exact blk_new_at rfl
  have hb2 : Below w.heap.size w w2 := by rw [hw2]; exact below_alloc hb1 _
  have sz2 : w1.heap.size + 1 ≤ w2.heap.size := by rw [hw2]; simp
  clear hw2
  clear B6_1 B7_1 hb1
  refine (hy w2 hb2).mono ?_
  rintro e w3 ⟨rfl, hb_⟩
  have B6_3 := blk_below B6_2 hb_
  have B7_3 := blk_below B7_2 hb_
  have BX_3 := blk_below BX_2 hb_
  have hb3 := hb2.trans (hb_.mono hb2.size)
  have sz3 : w1.heap.size + 1 ≤ w3.heap.size := Nat.le_trans sz2 hb_.size
  clear B6_2 B7_2 BX_2 hb_ hb2 sz2 hy
  go_wp2_with (fail)
  refine wp_at ?_
  intro w4 hw4
  have B6_4 : w4.drew.heap[w.heap.size]? = some (.cells #[.slice none 0 0] 22 (0, 0)) := by rw [hw4]; exact blk_drew_ (blk_alloc_ B6_3)
  have B7_4 : w4.drew.heap[w.heap.size + 1]? = some (.cells #[.bool false] 4 (0, 0)) := by rw [hw4]; exact blk_drew_ (blk_alloc_ B7_3)
  have BX_4 : w4.drew.heap[w1.heap.size]? = some (.cells #[.int .i64 wd, .int .i32 x1, .int .i64 x2, .int .u64 x3, .int .i64 x4, .int .u64 x5, .int .u64 x6, .int .u64 x7, .int .u64 x8] 62 (0, 0)) := by rw [hw4]; exact blk_drew_ (blk_alloc_ BX_3)
  have BY_4 : w4.drew.heap[w3.heap.size]? = some (.cells #[.int .i64 wd, .int .i32 y1, .int .i64 y2, .int .u64 y3, .int .i64 y4, .int .u64 y5, .int .u64 y6, .int .u64 y7, .int .u64 y8] 62 (0, 0)) := by rw [hw4]; exact blk_drew_ (blk_new_at rfl)
  have hb4 : Below w.heap.size w w4.drew := by rw [hw4]; exact below_drew (below_alloc hb3 _)
  clear hw4 B6_3 B7_3 BX_3 hb3
  refine wp_region_noPanic ?_
  refine start_ (n := 23) (S := fun w' => w'.heap[w1.heap.size]? = some (.cells #[.int .i64 wd, .int .i32 x1, .int .i64 x2, .int .u64 x3, .int .i64 x4, .int .u64 x5, .int .u64 x6, .int .u64 x7, .int .u64 x8] 62 (0, 0)) ∧ w'.heap[w3.heap.size]? = some (.cells #[.int .i64 wd, .int .i32 y1, .int .i64 y2, .int .u64 y3, .int .i64 y4, .int .u64 y5, .int .u64 y6, .int .u64 y7, .int .u64 y8] 62 (0, 0))) (ds := [22]) #[false, false, false, false, false, false, false, false, false, false, false, false, false, false, false, false, false, false, false, false, false, false, false] (by kernel_rfl) rfl rfl ⟨BX_4, BY_4⟩ (fun hHeld => ?_)
  generalize w4.drew = w5 at *
  refine pure_ (i := 0) (N := some 57) (v := ?_) (a' := ?_) #[true, false, false, false, false, false, false, false, false, false, false, false, false, false, false, false, false, false, false, false, false, false, false] rfl rfl (by kernel_rfl) (fun _ _ _ h => h) (Or.inl ⟨by rfl, ?_⟩) ?_ ?_
  rotate_left
  · intro w'
    go_simp
    with_reducible rfl
  rotate_left
  · simp only [Act.put, s1_, s2_, s3_, i64_w, i32_w]
    rfl
  refine pure_ (i := 1) (N := some 58) (v := ?_) (a' := ?_) #[true, true, false, false, false, false, false, false, false, false, false, false, false, false, false, false, false, false, false, false, false, false, false] rfl rfl (by kernel_rfl) (fun _ _ _ h => h) (Or.inl ⟨by rfl, ?_⟩) ?_ ?_
  rotate_left
  · intro w'
    go_simp
    with_reducible rfl
  rotate_left
  · simp only [Act.put, s1_, s2_, s3_, i64_w, i32_w]
    rfl
  refine pure_ (i := 3) (N := some 60) (v := ?_) (a' := ?_) #[true, true, false, true, false, false, false, false, false, false, false, false, false, false, false, false, false, false, false, false, false, false, false] rfl rfl (by kernel_rfl) (fun _ _ _ h => h) (Or.inl ⟨by rfl, ?_⟩) ?_ ?_
  rotate_left
  · intro w'
    go_simp
    with_reducible rfl
  rotate_left
  · simp only [Act.put, s1_, s2_, s3_, i64_w, i32_w]
    rfl
  refine pure_ (i := 6) (N := some 63) (v := ?_) (a' := ?_) #[true, true, false, true, false, false, true, false, false, false, false, false, false, false, false, false, false, false, false, false, false, false, false] rfl rfl (by kernel_rfl) (fun _ _ _ h => h) (Or.inl ⟨by rfl, ?_⟩) ?_ ?_
  rotate_left
  · intro w'
    go_simp
    with_reducible rfl
  rotate_left
  · simp only [Act.put, s1_, s2_, s3_, i64_w, i32_w]
    rfl
  refine pure_ (i := 8) (N := some 65) (v := ?_) (a' := ?_) #[true, true, false, true, false, false, true, false, true, false, false, false, false, false, false, false, false, false, false, false, false, false, false] rfl rfl (by kernel_rfl) (fun _ _ _ h => h) (Or.inl ⟨by rfl, ?_⟩) ?_ ?_
  rotate_left
  · intro w'
    go_simp
    with_reducible rfl
  rotate_left
  · simp only [Act.put, s1_, s2_, s3_, i64_w, i32_w]
    rfl
  refine pure_ (i := 11) (N := some 68) (v := ?_) (a' := ?_) #[true, true, false, true, false, false, true, false, true, false, false, true, false, false, false, false, false, false, false, false, false, false, false] rfl rfl (by kernel_rfl) (fun _ _ _ h => h) (Or.inl ⟨by rfl, ?_⟩) ?_ ?_
  rotate_left
  · intro w'
    go_simp
    with_reducible rfl
  rotate_left
  · simp only [Act.put, s1_, s2_, s3_, i64_w, i32_w]
    rfl
  refine pure_ (i := 13) (N := some 70) (v := ?_) (a' := ?_) #[true, true, false, true, false, false, true, false, true, false, false, true, false, true, false, false, false, false, false, false, false, false, false] rfl rfl (by kernel_rfl) (fun _ _ _ h => h) (Or.inl ⟨by rfl, ?_⟩) ?_ ?_
  rotate_left
  · intro w'
    go_simp
    with_reducible rfl
  rotate_left
  · simp only [Act.put, s1_, s2_, s3_, i64_w, i32_w]
    rfl
  refine pure_ (i := 16) (N := some 73) (v := ?_) (a' := ?_) #[true, true, false, true, false, false, true, false, true, false, false, true, false, true, false, false, true, false, false, false, false, false, false] rfl rfl (by kernel_rfl) (fun _ _ _ h => h) (Or.inl ⟨by rfl, ?_⟩) ?_ ?_
  rotate_left
  · intro w'
    go_simp
    with_reducible rfl
  rotate_left
  · simp only [Act.put, s1_, s2_, s3_, i64_w, i32_w]
    rfl
  refine pure_ (i := 18) (N := some 75) (v := ?_) (a' := ?_) #[true, true, false, true, false, false, true, false, true, false, false, true, false, true, false, false, true, false, true, false, false, false, false] rfl rfl (by kernel_rfl) (fun _ _ _ h => h) (Or.inl ⟨by rfl, ?_⟩) ?_ ?_
  rotate_left
  · intro w'
    go_simp
    with_reducible rfl
  rotate_left
  · simp only [Act.put, s1_, s2_, s3_, i64_w, i32_w]
    rfl
  refine take_ (i := 2) (N := some 59) (v := ?_) (a' := ?_) #[true, true, true, true, false, false, true, false, true, false, false, true, false, true, false, false, true, false, true, false, false, false, false] rfl rfl (by kernel_rfl) (fun _ _ _ h => h) (Or.inl ⟨by rfl, ?_⟩) hHeld ?_ ?_
  rotate_left
  · intro w' s0
    have d1 : w'.cell? ⟨w1.heap.size, 1, none⟩ = some (.int .i32 x1) := (blk_cell s0.1 1).trans rfl
    clear s0
    go_simp
    with_reducible rfl
  rotate_left
  · simp only [Act.put, s1_, s2_, s3_, i64_w, i32_w]
    rfl
  refine take_ (i := 4) (N := some 61) (v := ?_) (a' := ?_) #[true, true, true, true, true, false, true, false, true, false, false, true, false, true, false, false, true, false, true, false, false, false, false] rfl rfl (by kernel_rfl) (fun _ _ _ h => h) (Or.inl ⟨by rfl, ?_⟩) hHeld ?_ ?_
  rotate_left
  · intro w' s0
    have d1 : w'.cell? ⟨w3.heap.size, 1, none⟩ = some (.int .i32 y1) := (blk_cell s0.2 1).trans rfl
    clear s0
    go_simp
    with_reducible rfl
  rotate_left
  · simp only [Act.put, s1_, s2_, s3_, i64_w, i32_w]
    rfl
  refine take_ (i := 7) (N := some 64) (v := ?_) (a' := ?_) #[true, true, true, true, true, false, true, true, true, false, false, true, false, true, false, false, true, false, true, false, false, false, false] rfl rfl (by kernel_rfl) (fun _ _ _ h => h) (Or.inl ⟨by rfl, ?_⟩) hHeld ?_ ?_
  rotate_left
  · intro w' s0
    have d2 : w'.cell? ⟨w1.heap.size, 2, none⟩ = some (.int .i64 x2) := (blk_cell s0.1 2).trans rfl
    clear s0
    go_simp
    with_reducible rfl
  rotate_left
  · simp only [Act.put, s1_, s2_, s3_, i64_w, i32_w]
    rfl
  refine take_ (i := 9) (N := some 66) (v := ?_) (a' := ?_) #[true, true, true, true, true, false, true, true, true, true, false, true, false, true, false, false, true, false, true, false, false, false, false] rfl rfl (by kernel_rfl) (fun _ _ _ h => h) (Or.inl ⟨by rfl, ?_⟩) hHeld ?_ ?_
  rotate_left
  · intro w' s0
    have d2 : w'.cell? ⟨w3.heap.size, 2, none⟩ = some (.int .i64 y2) := (blk_cell s0.2 2).trans rfl
    clear s0
    go_simp
    with_reducible rfl
  rotate_left
  · simp only [Act.put, s1_, s2_, s3_, i64_w, i32_w]
    rfl
  refine take_ (i := 12) (N := some 69) (v := ?_) (a' := ?_) #[true, true, true, true, true, false, true, true, true, true, false, true, true, true, false, false, true, false, true, false, false, false, false] rfl rfl (by kernel_rfl) (fun _ _ _ h => h) (Or.inl ⟨by rfl, ?_⟩) hHeld ?_ ?_
  rotate_left
  · intro w' s0
    have d3 : w'.cell? ⟨w1.heap.size, 3, none⟩ = some (.int .u64 x3) := (blk_cell s0.1 3).trans rfl
    have d4 : w'.cell? ⟨w1.heap.size, 4, none⟩ = some (.int .i64 x4) := (blk_cell s0.1 4).trans rfl
    clear s0
    go_simp
    with_reducible rfl
  rotate_left
  · simp only [Act.put, s1_, s2_, s3_, i64_w, i32_w]
    rfl
  refine take_ (i := 14) (N := some 71) (v := ?_) (a' := ?_) #[true, true, true, true, true, false, true, true, true, true, false, true, true, true, true, false, true, false, true, false, false, false, false] rfl rfl (by kernel_rfl) (fun _ _ _ h => h) (Or.inl ⟨by rfl, ?_⟩) hHeld ?_ ?_
  rotate_left
  · intro w' s0
    have d3 : w'.cell? ⟨w3.heap.size, 3, none⟩ = some (.int .u64 y3) := (blk_cell s0.2 3).trans rfl
    have d4 : w'.cell? ⟨w3.heap.size, 4, none⟩ = some (.int .i64 y4) := (blk_cell s0.2 4).trans rfl
    clear s0
    go_simp
    with_reducible rfl
  rotate_left
  · simp only [Act.put, s1_, s2_, s3_, i64_w, i32_w]
    rfl
  refine take_ (i := 17) (N := some 74) (v := ?_) (a' := ?_) #[true, true, true, true, true, false, true, true, true, true, false, true, true, true, true, false, true, true, true, false, false, false, false] rfl rfl (by kernel_rfl) (fun _ _ _ h => h) (Or.inl ⟨by rfl, ?_⟩) hHeld ?_ ?_
  rotate_left
  · intro w' s0
    have d5 : w'.cell? ⟨w1.heap.size, 5, none⟩ = some (.int .u64 x5) := (blk_cell s0.1 5).trans rfl
    have d6 : w'.cell? ⟨w1.heap.size, 6, none⟩ = some (.int .u64 x6) := (blk_cell s0.1 6).trans rfl
    have d7 : w'.cell? ⟨w1.heap.size, 7, none⟩ = some (.int .u64 x7) := (blk_cell s0.1 7).trans rfl
    have d8 : w'.cell? ⟨w1.heap.size, 8, none⟩ = some (.int .u64 x8) := (blk_cell s0.1 8).trans rfl
    clear s0
    go_simp
    with_reducible rfl
  rotate_left
  · simp only [Act.put, s1_, s2_, s3_, i64_w, i32_w]
    rfl
  refine take_ (i := 19) (N := some 76) (v := ?_) (a' := ?_) #[true, true, true, true, true, false, true, true, true, true, false, true, true, true, true, false, true, true, true, true, false, false, false] rfl rfl (by kernel_rfl) (fun _ _ _ h => h) (Or.inl ⟨by rfl, ?_⟩) hHeld ?_ ?_
  rotate_left
  · intro w' s0
    have d5 : w'.cell? ⟨w3.heap.size, 5, none⟩ = some (.int .u64 y5) := (blk_cell s0.2 5).trans rfl
    have d6 : w'.cell? ⟨w3.heap.size, 6, none⟩ = some (.int .u64 y6) := (blk_cell s0.2 6).trans rfl
    have d7 : w'.cell? ⟨w3.heap.size, 7, none⟩ = some (.int .u64 y7) := (blk_cell s0.2 7).trans rfl
    have d8 : w'.cell? ⟨w3.heap.size, 8, none⟩ = some (.int .u64 y8) := (blk_cell s0.2 8).trans rfl
    clear s0
    go_simp
    with_reducible rfl
  rotate_left
  · simp only [Act.put, s1_, s2_, s3_, i64_w, i32_w]
    rfl
  refine one_ (i := 5) (N := some 62) #[true, true, true, true, true, true, true, true, true, true, false, true, true, true, true, false, true, true, true, true, false, false, false] rfl rfl (by kernel_rfl) (by decide) (fun K hK => ?_)
  refine goes_ Try.func41 (by kernel_rfl) rfl #[.int .i32 x1, .int .i32 y1] (by rfl) rfl rfl (by (try simp only [List.map_toArray, List.map_cons, List.map_nil]); rfl) ?_
  refine (h32 w5).mono ?_
  rintro e w6 ⟨rfl, hb_⟩
  refine ⟨_, rfl, ?_⟩
  have B6_5 := blk_below B6_4 hb_
  have B7_5 := blk_below B7_4 hb_
  have BX_5 := blk_below BX_4 hb_
  have BY_5 := blk_below BY_4 hb_
  have hb5 := hb4.trans (hb_.mono hb4.size)
  clear B6_4 B7_4 BX_4 BY_4 hb4
  refine hK.out _ _ ⟨BX_5, BY_5⟩ (fun hHeld2 => ?_)
  clear hK K hb_ hHeld
  have hHeld := hHeld2
  clear hHeld2
  refine norm_ (a' := ?_) ?_ ?_
  rotate_left
  · show Act.put _ (some 62) _ = _
    simp only [Act.put, s1_, s2_, s3_]
    rfl
  refine one_ (i := 10) (N := some 67) #[true, true, true, true, true, true, true, true, true, true, true, true, true, true, true, false, true, true, true, true, false, false, false] rfl rfl (by kernel_rfl) (by decide) (fun K hK => ?_)
  refine goes_ Try.func42 (by kernel_rfl) rfl #[.int .i64 x2, .int .i64 y2] (by rfl) rfl rfl (by (try simp only [List.map_toArray, List.map_cons, List.map_nil]); rfl) ?_
  refine (h64 w6).mono ?_
  rintro e w7 ⟨rfl, hb_⟩
  refine ⟨_, rfl, ?_⟩
  have B6_6 := blk_below B6_5 hb_
  have B7_6 := blk_below B7_5 hb_
  have BX_6 := blk_below BX_5 hb_
  have BY_6 := blk_below BY_5 hb_
  have hb6 := hb5.trans (hb_.mono hb5.size)
  clear B6_5 B7_5 BX_5 BY_5 hb5
  refine hK.out _ _ ⟨BX_6, BY_6⟩ (fun hHeld2 => ?_)
  clear hK K hb_ hHeld
  have hHeld := hHeld2
  clear hHeld2
  refine norm_ (a' := ?_) ?_ ?_
  rotate_left
  · show Act.put _ (some 67) _ = _
    simp only [Act.put, s1_, s2_, s3_]
    rfl
  refine one_ (i := 15) (N := some 72) #[true, true, true, true, true, true, true, true, true, true, true, true, true, true, true, true, true, true, true, true, false, false, false] rfl rfl (by kernel_rfl) (by decide) (fun K hK => ?_)
  refine goes_ Try.func43 (by kernel_rfl) rfl #[d128A x3 x4, d128A y3 y4] (by rfl) rfl rfl (by (try simp only [List.map_toArray, List.map_cons, List.map_nil]); rfl) ?_
  refine (h128 w7).mono ?_
  rintro e w8 ⟨rfl, hb_⟩
  refine ⟨_, rfl, ?_⟩
  have B6_7 := blk_below B6_6 hb_
  have B7_7 := blk_below B7_6 hb_
  have BX_7 := blk_below BX_6 hb_
  have BY_7 := blk_below BY_6 hb_
  have hb7 := hb6.trans (hb_.mono hb6.size)
  clear B6_6 B7_6 BX_6 BY_6 hb6
  refine hK.out _ _ ⟨BX_7, BY_7⟩ (fun hHeld2 => ?_)
  clear hK K hb_ hHeld
  have hHeld := hHeld2
  clear hHeld2
  refine norm_ (a' := ?_) ?_ ?_
  rotate_left
  · show Act.put _ (some 72) _ = _
    simp only [Act.put, s1_, s2_, s3_]
    rfl
  refine one_ (i := 20) (N := some 77) #[true, true, true, true, true, true, true, true, true, true, true, true, true, true, true, true, true, true, true, true, true, false, false] rfl rfl (by kernel_rfl) (by decide) (fun K hK => ?_)
  refine goes_ Try.func44 (by kernel_rfl) rfl #[d256A x5 x6 x7 x8, d256A y5 y6 y7 y8] (by rfl) rfl rfl (by (try simp only [List.map_toArray, List.map_cons, List.map_nil]); rfl) ?_
  refine (h256 w8).mono ?_
  rintro e w9 ⟨rfl, hb_⟩
  refine ⟨_, rfl, ?_⟩
  have B6_8 := blk_below B6_7 hb_
  have B7_8 := blk_below B7_7 hb_
  have BX_8 := blk_below BX_7 hb_
  have BY_8 := blk_below BY_7 hb_
  have hb8 := hb7.trans (hb_.mono hb7.size)
  clear B6_7 B7_7 BX_7 BY_7 hb7
  refine hK.out _ _ ⟨BX_8, BY_8⟩ (fun hHeld2 => ?_)
  clear hK K hb_ hHeld
  have hHeld := hHeld2
  clear hHeld2
  refine norm_ (a' := ?_) ?_ ?_
  rotate_left
  · show Act.put _ (some 77) _ = _
    simp only [Act.put, s1_, s2_, s3_]
    rfl
  refine pure_ (i := 21) (N := some 78) (v := ?_) (a' := ?_) #[true, true, true, true, true, true, true, true, true, true, true, true, true, true, true, true, true, true, true, true, true, true, false] rfl rfl (by kernel_rfl) (fun _ _ _ h => h) (Or.inl ⟨by rfl, ?_⟩) ?_ ?_
  rotate_left
  · intro w'
    go_simp
    with_reducible rfl
  rotate_left
  · simp only [Act.put, s1_, s2_, s3_, i64_w, i32_w]
    rfl
  obtain ⟨wF, hwF⟩ : ∃ wF, wF = (((((((((w9.setCell ⟨w1.heap.size, 0, none⟩ (.int .i64 wd)).setCell ⟨w1.heap.size, 1, none⟩ (.int .i32 z1)).setCell ⟨w1.heap.size, 2, none⟩ (.int .i64 z2)).setCell ⟨w1.heap.size, 3, none⟩ (.int .u64 z3)).setCell ⟨w1.heap.size, 4, none⟩ (.int .i64 z4)).setCell ⟨w1.heap.size, 5, none⟩ (.int .u64 z5)).setCell ⟨w1.heap.size, 6, none⟩ (.int .u64 z6)).setCell ⟨w1.heap.size, 7, none⟩ (.int .u64 z7)).setCell ⟨w1.heap.size, 8, none⟩ (.int .u64 z8)) := ⟨_, rfl⟩
  have l3 := blk_lt BY_8
  have hne : w3.heap.size ≠ w1.heap.size := by omega
  have fx := fun (i : Nat) (u : Value) (W : World) (g : Nat) (o : Obj) (hg : g ≠ w1.heap.size) (h : W.heap[g]? = some o) => blk_other_ (i := i) (u := u) hg h
  have far : ∀ g o, g ≠ w1.heap.size → w9.heap[g]? = some o → wF.heap[g]? = some o := by
    intro g o hg h
    rw [hwF]
    exact blk_other_ hg (blk_other_ hg (blk_other_ hg (blk_other_ hg (blk_other_ hg (blk_other_ hg (blk_other_ hg (blk_other_ hg (blk_other_ hg h))))))))
  have B6_9 := far _ _ (by omega) B6_8
  have B7_9 := far _ _ (by omega) B7_8
  have BX_9 : wF.heap[w1.heap.size]? = some (.cells #[.int .i64 wd, .int .i32 z1, .int .i64 z2, .int .u64 z3, .int .i64 z4, .int .u64 z5, .int .u64 z6, .int .u64 z7, .int .u64 z8] 62 (0, 0)) := by rw [hwF]; exact put9 BX_8 (.int .i64 wd) (.int .i32 z1) (.int .i64 z2) (.int .u64 z3) (.int .i64 z4) (.int .u64 z5) (.int .u64 z6) (.int .u64 z7) (.int .u64 z8)
  have hb9 : Below w.heap.size w wF := by rw [hwF]; exact below9 hb8 (by omega) (.int .i64 wd) (.int .i32 z1) (.int .i64 z2) (.int .u64 z3) (.int .i64 z4) (.int .u64 z5) (.int .u64 z6) (.int .u64 z7) (.int .u64 z8)
  have z0_ : w9.cell? ⟨w1.heap.size, 0, none⟩ = some (.int .i64 wd) := (blk_cell BX_8 0).trans rfl
  have y0_ := blk_frozen BX_8 0
  have z1_ : w9.cell? ⟨w1.heap.size, 1, none⟩ = some (.int .i32 x1) := (blk_cell BX_8 1).trans rfl
  have y1_ := blk_frozen BX_8 1
  have z2_ : w9.cell? ⟨w1.heap.size, 2, none⟩ = some (.int .i64 x2) := (blk_cell BX_8 2).trans rfl
  have y2_ := blk_frozen BX_8 2
  have z3_ : w9.cell? ⟨w1.heap.size, 3, none⟩ = some (.int .u64 x3) := (blk_cell BX_8 3).trans rfl
  have y3_ := blk_frozen BX_8 3
  have z4_ : w9.cell? ⟨w1.heap.size, 4, none⟩ = some (.int .i64 x4) := (blk_cell BX_8 4).trans rfl
  have y4_ := blk_frozen BX_8 4
  have z5_ : w9.cell? ⟨w1.heap.size, 5, none⟩ = some (.int .u64 x5) := (blk_cell BX_8 5).trans rfl
  have y5_ := blk_frozen BX_8 5
  have z6_ : w9.cell? ⟨w1.heap.size, 6, none⟩ = some (.int .u64 x6) := (blk_cell BX_8 6).trans rfl
  have y6_ := blk_frozen BX_8 6
  have z7_ : w9.cell? ⟨w1.heap.size, 7, none⟩ = some (.int .u64 x7) := (blk_cell BX_8 7).trans rfl
  have y7_ := blk_frozen BX_8 7
  have z8_ : w9.cell? ⟨w1.heap.size, 8, none⟩ = some (.int .u64 x8) := (blk_cell BX_8 8).trans rfl
  have y8_ := blk_frozen BX_8 8
  clear far fx
  refine last_ (i := 22) (N := none) #[true, true, true, true, true, true, true, true, true, true, true, true, true, true, true, true, true, true, true, true, true, true, true] rfl rfl (by kernel_rfl) (by decide) (fun K hK => ?_)
  refine skip_ (w1 := wF) (by rfl) rfl ?_ ?_
  · clear B6_9 B7_9 BX_9 hb9 B6_8 B7_8 BX_8 BY_8 hb8 hHeld hne
    have HF := Lib.hid hwF
    clear hwF
    go_simp
    rw [HF.out]
  refine hK.out _ _ ?_
  clear hK K hHeld hwF hne B6_8 B7_8 BX_8 BY_8 hb8 z0_ y0_ z1_ y1_ z2_ y2_ z3_ y3_ z4_ y4_ z5_ y5_ z6_ y6_ z7_ y7_ z8_ y8_
  refine done_ (by kernel_rfl) ?_
  refine NoPanic.normal ?_
  have z0_ : wF.cell? ⟨w1.heap.size, 0, none⟩ = some (.int .i64 wd) := (blk_cell BX_9 0).trans rfl
  have y0_ := blk_frozen BX_9 0
  have z1_ : wF.cell? ⟨w1.heap.size, 1, none⟩ = some (.int .i32 z1) := (blk_cell BX_9 1).trans rfl
  have y1_ := blk_frozen BX_9 1
  have z2_ : wF.cell? ⟨w1.heap.size, 2, none⟩ = some (.int .i64 z2) := (blk_cell BX_9 2).trans rfl
  have y2_ := blk_frozen BX_9 2
  have z3_ : wF.cell? ⟨w1.heap.size, 3, none⟩ = some (.int .u64 z3) := (blk_cell BX_9 3).trans rfl
  have y3_ := blk_frozen BX_9 3
  have z4_ : wF.cell? ⟨w1.heap.size, 4, none⟩ = some (.int .i64 z4) := (blk_cell BX_9 4).trans rfl
  have y4_ := blk_frozen BX_9 4
  have z5_ : wF.cell? ⟨w1.heap.size, 5, none⟩ = some (.int .u64 z5) := (blk_cell BX_9 5).trans rfl
  have y5_ := blk_frozen BX_9 5
  have z6_ : wF.cell? ⟨w1.heap.size, 6, none⟩ = some (.int .u64 z6) := (blk_cell BX_9 6).trans rfl
  have y6_ := blk_frozen BX_9 6
  have z7_ : wF.cell? ⟨w1.heap.size, 7, none⟩ = some (.int .u64 z7) := (blk_cell BX_9 7).trans rfl
  have y7_ := blk_frozen BX_9 7
  have z8_ : wF.cell? ⟨w1.heap.size, 8, none⟩ = some (.int .u64 z8) := (blk_cell BX_9 8).trans rfl
  have y8_ := blk_frozen BX_9 8
  go_wp2_with (go_at_call 26; fail)
  clear z0_ y0_ z1_ y1_ z2_ y2_ z3_ y3_ z4_ y4_ z5_ y5_ z6_ y6_ z7_ y7_ z8_ y8_ BX_9
  have l9 := blk_lt B7_9
  refine (hw wF).mono ?_
  rintro e w10 ⟨v1, rfl, hR1, hb_⟩
  obtain ⟨Av1, cv1, rfl⟩ := Kd.V_slice hR1
  have B6_10 := blk_below B6_9 hb_
  have B7_10 := blk_below B7_9 hb_
  have hb10 := hb9.trans (hb_.mono hb9.size)
  have s10 := hb_.size
  clear hb_ hb9 B6_9 B7_9 hw h32 h64 h128 h256
  have cB60 : w10.cell? ⟨w.heap.size, 0, none⟩ = some (.slice none 0 0) := (blk_cell B6_10 0).trans rfl
  have fcB60 := blk_frozen B6_10 0
  have cB70 : w10.cell? ⟨w.heap.size + 1, 0, none⟩ = some (.bool false) := (blk_cell B7_10 0).trans rfl
  have fcB70 := blk_frozen B7_10 0
  go_wp2_with (fail)
  clear cB60 fcB60 cB70 fcB70
  obtain ⟨wG, hwG⟩ : ∃ wG, wG = ((w10.setCell ⟨w.heap.size, 0, none⟩ (.slice Av1 r.length cv1)).setCell ⟨w.heap.size + 1, 0, none⟩ (.bool true)) := ⟨_, rfl⟩
  rw [← hwG]
  have q6 : wG.heap[w.heap.size]? = some (.cells #[.slice Av1 r.length cv1] 22 (0, 0)) := by
    rw [hwG]; refine blk_other_ (by omega) ?_; exact blk_put_at B6_10 rfl
  have k1 : (w10.setCell ⟨w.heap.size, 0, none⟩ (.slice Av1 r.length cv1)).heap[w.heap.size + 1]? = some (.cells #[.bool false] 4 (0, 0)) := blk_other_ (by omega) B7_10
  have q7 : wG.heap[w.heap.size + 1]? = some (.cells #[.bool true] 4 (0, 0)) := by
    rw [hwG]; exact blk_put_at k1 rfl
  have hbG : Below w.heap.size w wG := by rw [hwG]; exact below_set (below_set hb10 (by omega)) (by omega)
  have r1 : Kd.V (Kd.int .u64) 25 wG w.heap.size (fun k_ => w.heap.size ≤ k_) (.slice Av1 r.length cv1) r := by
    rw [hwG]
    exact Kd.V_mono (Kd.V_far (Kd.V_far hR1 (fun k (hk : wF.heap.size ≤ k) => (by omega : k ≠ w.heap.size)) _) (fun k (hk : wF.heap.size ≤ k) => (by omega : k ≠ w.heap.size + 1)) _) (fun k (hk : wF.heap.size ≤ k) => (by omega : w.heap.size ≤ k))
  clear hwG hR1 k1 B6_10 B7_10 hb10
  refine leaves_cons (f := 32) (args := #[.pointer (some ⟨w.heap.size, 0, none⟩), .pointer (some ⟨w.heap.size + 1, 0, none⟩)]) (by simp) (by simp [go_sem]) ?_
  refine (catch_one _ _ _).mono ?_
  rintro e u' w'' ⟨rfl, rfl, rfl⟩
  have c6 := (blk_cell q6 0).trans (show _ = some (Value.slice Av1 r.length cv1) from rfl)
  have c7 := (blk_cell q7 0).trans (show _ = some (Value.bool true) from rfl)
  simp [Leaves, settle, results, Try.results18, go_sem, c6, c7]
  exact ⟨r1, hbG⟩
end Go.Proofs.Ytiiicmfobljnaaa.V
