/- The walks of impl.DecCompared at each width. -/
import Derived.Test.YtiiicmfobljnaaaTC0
namespace Go.Proofs.Ytiiicmfobljnaaa.V
set_option linter.unusedVariables false
set_option linter.unusedSimpArgs false
open Go.RowKit Go.Proofs.YtiiicmfobljnaaaW.PrintWords Go.Proofs.YtiiicmfobljnaaaW.PrintLast Go.Proofs.YtiiicmfobljnaaaW.PrintMore
theorem catch_cmp (p q r : Addr) (w : World) :
    CallsD Try.prog 49 #[.pointer (some p), .pointer (some q), .pointer (some r)] .returning w fun e u' w' => e = .returned (.tuple #[]) ∧ u' = .returning ∧ w = w' := by
  refine callsD_of_wpS Try.func49 rfl fun c₀ cs hu => ?_
  apply wpS_seq
  apply wpS_region
  simp [wpOpsS, go_sem, recoverD, hu, Try.ntmps49, Exit.thenS]
  refine wpS_cond (t := false) (by simp [Act.eval, Array.replicate]) ?_
  simp only [Bool.false_eq_true, if_false]
  refine wpS_of_wp (wp_skip ?_)
  cases c₀
  simp_all [bodyPostS, results, Try.results49]
theorem put6 {W : World} {g : Nat} {t : TypeId} {u0 u1 u2 u3 u4 u5 : Value} (h : W.heap[g]? = some (.cells #[u0, u1, u2, u3, u4, u5] t (0, 0))) (v0 v1 v2 v3 v4 v5 : Value) :
    ((((((W.setCell ⟨g, 0, none⟩ v0).setCell ⟨g, 1, none⟩ v1).setCell ⟨g, 2, none⟩ v2).setCell ⟨g, 3, none⟩ v3).setCell ⟨g, 4, none⟩ v4).setCell ⟨g, 5, none⟩ v5).heap[g]? = some (.cells #[v0, v1, v2, v3, v4, v5] t (0, 0)) := by
  have h0 := blk_put_at (cs' := #[v0, u1, u2, u3, u4, u5]) (i := 0) (u := v0) h rfl
  have h1 := blk_put_at (cs' := #[v0, v1, u2, u3, u4, u5]) (i := 1) (u := v1) h0 rfl
  have h2 := blk_put_at (cs' := #[v0, v1, v2, u3, u4, u5]) (i := 2) (u := v2) h1 rfl
  have h3 := blk_put_at (cs' := #[v0, v1, v2, v3, u4, u5]) (i := 3) (u := v3) h2 rfl
  have h4 := blk_put_at (cs' := #[v0, v1, v2, v3, v4, u5]) (i := 4) (u := v4) h3 rfl
  exact blk_put_at (cs' := #[v0, v1, v2, v3, v4, v5]) (i := 5) (u := v5) h4 rfl
theorem far6 {W : World} {g g' : Nat} {o : Obj} (hne : g' ≠ g) (h : W.heap[g']? = some o) (v0 v1 v2 v3 v4 v5 : Value) :
    ((((((W.setCell ⟨g, 0, none⟩ v0).setCell ⟨g, 1, none⟩ v1).setCell ⟨g, 2, none⟩ v2).setCell ⟨g, 3, none⟩ v3).setCell ⟨g, 4, none⟩ v4).setCell ⟨g, 5, none⟩ v5).heap[g']? = some o :=
  blk_other_ hne (blk_other_ hne (blk_other_ hne (blk_other_ hne (blk_other_ hne (blk_other_ hne h)))))
theorem bel6 {w W : World} {g : Nat} (h : Below w.heap.size w W) (hg : w.heap.size ≤ g) (v0 v1 v2 v3 v4 v5 : Value) :
    Below w.heap.size w ((((((W.setCell ⟨g, 0, none⟩ v0).setCell ⟨g, 1, none⟩ v1).setCell ⟨g, 2, none⟩ v2).setCell ⟨g, 3, none⟩ v3).setCell ⟨g, 4, none⟩ v4).setCell ⟨g, 5, none⟩ v5) :=
  below_set (below_set (below_set (below_set (below_set (below_set h hg) hg) hg) hg) hg) hg
set_option maxHeartbeats 4000000 in
set_option maxRecDepth 100000 in
theorem cmp32 (S1 S2 : Value) (x1 x2 x3 x4 x5 x6 x7 x8 y1 y2 y3 y4 y5 y6 y7 y8 c s : Int) (w : World) (hx : IsOf w 32 S1 x1 x2 x3 x4 x5 x6 x7 x8) (hy : IsOf w 32 S2 y1 y2 y3 y4 y5 y6 y7 y8)
    (hc : ∀ W, Calls Try.prog 50 #[.int .i32 x1, .int .i32 y1] W fun e W' => e = .returned (.int .i64 c) ∧ Below W.heap.size W W')
    (hs : ∀ W, Calls Try.prog 51 #[.int .i32 x1] W fun e W' => e = .returned (.int .i64 s) ∧ Below W.heap.size W W') :
    Calls Try.prog 19 #[.int .i64 32, S1, S2] w fun e w' => e = .returned (.tuple #[.agg #[.int .i64 c, .bool (c == 0), .bool false, .bool false, .bool false, .bool false], .int .i64 s, .bool true]) ∧ Below w.heap.size w w' := by
  have hmf : ∀ (fn : Fn) (first cap : Array Value) (w : World), (Instr.makeFunc fn first cap).run Try.prog w = .ok (.func fn first cap) w := fun _ _ _ _ => rfl
  go_enter_defers Try.func19, Try.ntmps19
  go_wp2_with (go_at_call 23; fail)
  clear hmf
  refine calls_at ?_
  intro w0 hw0
  have BC_0 : w0.heap[w.heap.size]? = some (.cells #[.int .i64 0, .bool false, .bool false, .bool false, .bool false, .bool false] 46 (0, 0)) := by rw [hw0]; exact blk_alloc_ (blk_alloc_ (blk_new_at rfl))
  have BS_0 : w0.heap[w.heap.size + 1]? = some (.cells #[.int .i64 0] 3 (0, 0)) := by rw [hw0]; exact blk_alloc_ (blk_new_at (by simp))
  have BO_0 : w0.heap[w.heap.size + 1 + 1]? = some (.cells #[.bool false] 4 (0, 0)) := by rw [hw0]; exact blk_new_at (by simp)
  have hb0 : Below w.heap.size w w0 := by rw [hw0]; exact below_alloc (below_alloc (below_alloc (Below.refl _ _) _) _) _
  have sz0 : w.heap.size + 3 ≤ w0.heap.size := by rw [hw0]; simp
  clear hw0
  refine (hx w0 hb0).mono ?_
  rintro e w1 ⟨rfl, hb_⟩
  have BC_1 := blk_below BC_0 hb_
  have BS_1 := blk_below BS_0 hb_
  have BO_1 := blk_below BO_0 hb_
  have hb1 := hb0.trans (hb_.mono hb0.size)
  have sz1 : w.heap.size + 3 ≤ w1.heap.size := Nat.le_trans sz0 hb_.size
  clear BC_0 BS_0 BO_0 hb_ hb0 sz0 hx
  go_wp2_with (go_at_call 23; fail)
  refine calls_at ?_
  intro w2 hw2
  have BC_2 : w2.heap[w.heap.size]? = some (.cells #[.int .i64 0, .bool false, .bool false, .bool false, .bool false, .bool false] 46 (0, 0)) := by rw [hw2]; exact blk_alloc_ BC_1
  have BS_2 : w2.heap[w.heap.size + 1]? = some (.cells #[.int .i64 0] 3 (0, 0)) := by rw [hw2]; exact blk_alloc_ BS_1
  have BO_2 : w2.heap[w.heap.size + 1 + 1]? = some (.cells #[.bool false] 4 (0, 0)) := by rw [hw2]; exact blk_alloc_ BO_1
  have BX_2 : w2.heap[w1.heap.size]? = some (.cells #[.int .i64 32, .int .i32 x1, .int .i64 x2, .int .u64 x3, .int .i64 x4, .int .u64 x5, .int .u64 x6, .int .u64 x7, .int .u64 x8] 62 (0, 0)) := by rw [hw2]; exact blk_new_at rfl
  have hb2 : Below w.heap.size w w2 := by rw [hw2]; exact below_alloc hb1 _
  have sz2 : w1.heap.size + 1 ≤ w2.heap.size := by rw [hw2]; simp
  clear hw2 BC_1 BS_1 BO_1 hb1
  refine (hy w2 hb2).mono ?_
  rintro e w3 ⟨rfl, hb_⟩
  have BC_3 := blk_below BC_2 hb_
  have BS_3 := blk_below BS_2 hb_
  have BO_3 := blk_below BO_2 hb_
  have BX_3 := blk_below BX_2 hb_
  have hb3 := hb2.trans (hb_.mono hb2.size)
  have sz3 : w1.heap.size + 1 ≤ w3.heap.size := Nat.le_trans sz2 hb_.size
  clear BC_2 BS_2 BO_2 BX_2 hb_ hb2 sz2 hy
  go_wp2_with (fail)
  refine wp_at ?_
  intro w4 hw4
  have BC_4 : w4.heap[w.heap.size]? = some (.cells #[.int .i64 0, .bool false, .bool false, .bool false, .bool false, .bool false] 46 (0, 0)) := by rw [hw4]; exact blk_alloc_ BC_3
  have BS_4 : w4.heap[w.heap.size + 1]? = some (.cells #[.int .i64 0] 3 (0, 0)) := by rw [hw4]; exact blk_alloc_ BS_3
  have BO_4 : w4.heap[w.heap.size + 1 + 1]? = some (.cells #[.bool false] 4 (0, 0)) := by rw [hw4]; exact blk_alloc_ BO_3
  have BX_4 : w4.heap[w1.heap.size]? = some (.cells #[.int .i64 32, .int .i32 x1, .int .i64 x2, .int .u64 x3, .int .i64 x4, .int .u64 x5, .int .u64 x6, .int .u64 x7, .int .u64 x8] 62 (0, 0)) := by rw [hw4]; exact blk_alloc_ BX_3
  have BY_4 : w4.heap[w3.heap.size]? = some (.cells #[.int .i64 32, .int .i32 y1, .int .i64 y2, .int .u64 y3, .int .i64 y4, .int .u64 y5, .int .u64 y6, .int .u64 y7, .int .u64 y8] 62 (0, 0)) := by rw [hw4]; exact blk_new_at rfl
  have hb4 : Below w.heap.size w w4 := by rw [hw4]; exact below_alloc hb3 _
  have sz4 : w3.heap.size + 1 ≤ w4.heap.size := by rw [hw4]; simp
  clear hw4 BC_3 BS_3 BO_3 BX_3 hb3
  refine wp_region_noPanic ?_
  refine wp_at ?_
  intro u0 hu0
  have B1_a0 : u0.drew.heap[w1.heap.size]? = some (.cells #[.int .i64 32, .int .i32 x1, .int .i64 x2, .int .u64 x3, .int .i64 x4, .int .u64 x5, .int .u64 x6, .int .u64 x7, .int .u64 x8] 62 (0, 0)) := by rw [hu0]; exact blk_drew_ BX_4
  have B2_a0 : u0.drew.heap[w3.heap.size]? = some (.cells #[.int .i64 32, .int .i32 y1, .int .i64 y2, .int .u64 y3, .int .i64 y4, .int .u64 y5, .int .u64 y6, .int .u64 y7, .int .u64 y8] 62 (0, 0)) := by rw [hu0]; exact blk_drew_ BY_4
  have BC_a0 : u0.drew.heap[w.heap.size]? = some (.cells #[.int .i64 0, .bool false, .bool false, .bool false, .bool false, .bool false] 46 (0, 0)) := by rw [hu0]; exact blk_drew_ BC_4
  have BS_a0 : u0.drew.heap[w.heap.size + 1]? = some (.cells #[.int .i64 0] 3 (0, 0)) := by rw [hu0]; exact blk_drew_ BS_4
  have BO_a0 : u0.drew.heap[w.heap.size + 1 + 1]? = some (.cells #[.bool false] 4 (0, 0)) := by rw [hu0]; exact blk_drew_ BO_4
  have hba0 : Below w.heap.size w u0.drew := by rw [hu0]; exact below_drew hb4
  clear hu0 BX_4 BY_4 BC_4 BS_4 BO_4 hb4
  refine start_ (n := 11) (S := fun w' => w'.heap[w1.heap.size]? = some (.cells #[.int .i64 32, .int .i32 x1, .int .i64 x2, .int .u64 x3, .int .i64 x4, .int .u64 x5, .int .u64 x6, .int .u64 x7, .int .u64 x8] 62 (0, 0)) ∧ w'.heap[w3.heap.size]? = some (.cells #[.int .i64 32, .int .i32 y1, .int .i64 y2, .int .u64 y3, .int .i64 y4, .int .u64 y5, .int .u64 y6, .int .u64 y7, .int .u64 y8] 62 (0, 0))) (ds := []) #[false, false, false, false, false, false, false, false, false, false, false] (by kernel_rfl) rfl rfl ⟨B1_a0, B2_a0⟩ (fun hHeld => ?_)
  generalize u0.drew = u1 at *
  refine pure_ (i := 0) (N := some 62) (v := ?_) (a' := ?_) #[true, false, false, false, false, false, false, false, false, false, false] rfl rfl (by kernel_rfl) (fun _ _ _ h => h) (Or.inl ⟨by rfl, ?_⟩) ?_ ?_
  rotate_left
  · intro w'
    go_simp
    with_reducible rfl
  rotate_left
  · simp only [Act.put, s1_, s2_, s3_, i64_w, i32_w]
    rfl
  refine pure_ (i := 2) (N := some 64) (v := ?_) (a' := ?_) #[true, false, true, false, false, false, false, false, false, false, false] rfl rfl (by kernel_rfl) (fun _ _ _ h => h) (Or.inl ⟨by rfl, ?_⟩) ?_ ?_
  rotate_left
  · intro w'
    go_simp
    with_reducible rfl
  rotate_left
  · simp only [Act.put, s1_, s2_, s3_, i64_w, i32_w]
    rfl
  refine pure_ (i := 5) (N := some 67) (v := ?_) (a' := ?_) #[true, false, true, false, false, true, false, false, false, false, false] rfl rfl (by kernel_rfl) (fun _ _ _ h => h) (Or.inl ⟨by rfl, ?_⟩) ?_ ?_
  rotate_left
  · intro w'
    go_simp
    with_reducible rfl
  rotate_left
  · simp only [Act.put, s1_, s2_, s3_, i64_w, i32_w]
    rfl
  refine take_ (i := 1) (N := some 63) (v := ?_) (a' := ?_) #[true, true, true, false, false, true, false, false, false, false, false] rfl rfl (by kernel_rfl) (fun _ _ _ h => h) (Or.inl ⟨by rfl, ?_⟩) hHeld ?_ ?_
  rotate_left
  · intro w' s0
    have d1 : w'.cell? ⟨w1.heap.size, 1, none⟩ = some (.int .i32 x1) := (blk_cell s0.1 1).trans rfl
    clear s0
    go_simp
    with_reducible rfl
  rotate_left
  · simp only [Act.put, s1_, s2_, s3_, i64_w, i32_w]
    rfl
  refine take_ (i := 3) (N := some 65) (v := ?_) (a' := ?_) #[true, true, true, true, false, true, false, false, false, false, false] rfl rfl (by kernel_rfl) (fun _ _ _ h => h) (Or.inl ⟨by rfl, ?_⟩) hHeld ?_ ?_
  rotate_left
  · intro w' s0
    have d1 : w'.cell? ⟨w3.heap.size, 1, none⟩ = some (.int .i32 y1) := (blk_cell s0.2 1).trans rfl
    clear s0
    go_simp
    with_reducible rfl
  rotate_left
  · simp only [Act.put, s1_, s2_, s3_, i64_w, i32_w]
    rfl
  refine take_ (i := 6) (N := some 68) (v := ?_) (a' := ?_) #[true, true, true, true, false, true, true, false, false, false, false] rfl rfl (by kernel_rfl) (fun _ _ _ h => h) (Or.inl ⟨by rfl, ?_⟩) hHeld ?_ ?_
  rotate_left
  · intro w' s0
    have d1 : w'.cell? ⟨w1.heap.size, 1, none⟩ = some (.int .i32 x1) := (blk_cell s0.1 1).trans rfl
    clear s0
    go_simp
    with_reducible rfl
  rotate_left
  · simp only [Act.put, s1_, s2_, s3_, i64_w, i32_w]
    rfl
  refine one_ (i := 4) (N := some 66) #[true, true, true, true, true, true, true, false, false, false, false] rfl rfl (by kernel_rfl) (by decide) (fun K hK => ?_)
  refine goes_ Try.func50 (by kernel_rfl) rfl #[.int .i32 x1, .int .i32 y1] (by rfl) rfl rfl (by (try simp only [List.map_toArray, List.map_cons, List.map_nil]); rfl) ?_
  refine (hc u1).mono ?_
  rintro e u2 ⟨rfl, hb_⟩
  refine ⟨_, rfl, ?_⟩
  have B1_a1 := blk_below B1_a0 hb_
  have B2_a1 := blk_below B2_a0 hb_
  have BC_a1 := blk_below BC_a0 hb_
  have BS_a1 := blk_below BS_a0 hb_
  have BO_a1 := blk_below BO_a0 hb_
  have hba1 := hba0.trans (hb_.mono hba0.size)
  clear B1_a0 B2_a0 BC_a0 BS_a0 BO_a0 hba0
  refine hK.out _ _ ⟨B1_a1, B2_a1⟩ (fun hHeld2 => ?_)
  clear hK K hb_ hHeld
  have hHeld := hHeld2
  clear hHeld2
  refine norm_ (a' := ?_) ?_ ?_
  rotate_left
  · show Act.put _ (some 66) _ = _
    simp only [Act.put, s1_, s2_, s3_]
    rfl
  refine pure_ (i := 8) (N := some 70) (v := ?_) (a' := ?_) #[true, true, true, true, true, true, true, false, true, false, false] rfl rfl (by kernel_rfl) (fun _ _ _ h => h) (Or.inl ⟨by rfl, ?_⟩) ?_ ?_
  rotate_left
  · intro w'
    go_simp
    with_reducible rfl
  rotate_left
  · simp only [Act.put, s1_, s2_, s3_, i64_w, i32_w]
    rfl
  refine one_ (i := 7) (N := some 69) #[true, true, true, true, true, true, true, true, true, false, false] rfl rfl (by kernel_rfl) (by decide) (fun K hK => ?_)
  refine goes_ Try.func51 (by kernel_rfl) rfl #[.int .i32 x1] (by rfl) rfl rfl (by (try simp only [List.map_toArray, List.map_cons, List.map_nil]); rfl) ?_
  refine (hs u2).mono ?_
  rintro e u3 ⟨rfl, hb_⟩
  refine ⟨_, rfl, ?_⟩
  have B1_a2 := blk_below B1_a1 hb_
  have B2_a2 := blk_below B2_a1 hb_
  have BC_a2 := blk_below BC_a1 hb_
  have BS_a2 := blk_below BS_a1 hb_
  have BO_a2 := blk_below BO_a1 hb_
  have hba2 := hba1.trans (hb_.mono hba1.size)
  clear B1_a1 B2_a1 BC_a1 BS_a1 BO_a1 hba1
  refine hK.out _ _ ⟨B1_a2, B2_a2⟩ (fun hHeld2 => ?_)
  clear hK K hb_ hHeld
  have hHeld := hHeld2
  clear hHeld2
  refine norm_ (a' := ?_) ?_ ?_
  rotate_left
  · show Act.put _ (some 69) _ = _
    simp only [Act.put, s1_, s2_, s3_]
    rfl
  obtain ⟨uF, huF⟩ : ∃ uF, uF = (u3.setCell ⟨w.heap.size, 0, none⟩ (.int .i64 c)) := ⟨_, rfl⟩
  have l3 := blk_lt B2_a2
  have l4 := blk_lt B1_a2
  have B1_b : uF.heap[w1.heap.size]? = some (.cells #[.int .i64 32, .int .i32 x1, .int .i64 x2, .int .u64 x3, .int .i64 x4, .int .u64 x5, .int .u64 x6, .int .u64 x7, .int .u64 x8] 62 (0, 0)) := by rw [huF]; exact blk_other_ (by omega) B1_a2
  have B2_b : uF.heap[w3.heap.size]? = some (.cells #[.int .i64 32, .int .i32 y1, .int .i64 y2, .int .u64 y3, .int .i64 y4, .int .u64 y5, .int .u64 y6, .int .u64 y7, .int .u64 y8] 62 (0, 0)) := by rw [huF]; exact blk_other_ (by omega) B2_a2
  have BS_b : uF.heap[w.heap.size + 1]? = some (.cells #[.int .i64 0] 3 (0, 0)) := by rw [huF]; exact blk_other_ (by omega) BS_a2
  have BO_b : uF.heap[w.heap.size + 1 + 1]? = some (.cells #[.bool false] 4 (0, 0)) := by rw [huF]; exact blk_other_ (by omega) BO_a2
  have BC_b : uF.heap[w.heap.size]? = some (.cells #[.int .i64 c, .bool false, .bool false, .bool false, .bool false, .bool false] 46 (0, 0)) := by rw [huF]; exact blk_put_at BC_a2 rfl
  have hbb : Below w.heap.size w uF := by rw [huF]; exact below_set hba2 (Nat.le_refl _)
  have z0_ : u3.cell? ⟨w.heap.size, 0, none⟩ = some (.int .i64 0) := (blk_cell BC_a2 0).trans rfl
  have y0_ := blk_frozen BC_a2 0
  refine one_ (i := 9) (N := none) #[true, true, true, true, true, true, true, true, true, true, false] rfl rfl (by kernel_rfl) (by decide) (fun K hK => ?_)
  refine skip_ (w1 := uF) (by rfl) rfl ?_ ?_
  · clear B1_b B2_b BC_b BS_b BO_b hbb B1_a2 B2_a2 BC_a2 BS_a2 BO_a2 hba2 hHeld
    have HF := Lib.hid huF
    clear huF
    go_simp
    rw [HF.out]
  refine hK.out _ _ ⟨B1_b, B2_b⟩ (fun hHeld2 => ?_)
  clear hK K hHeld huF hHeld2 B1_a2 B2_a2 BC_a2 BS_a2 BO_a2 hba2 z0_ y0_
  obtain ⟨uG, huG⟩ : ∃ uG, uG = uF.setCell ⟨w.heap.size + 1, 0, none⟩ (.int .i64 s) := ⟨_, rfl⟩
  have B1_c : uG.heap[w1.heap.size]? = some (.cells #[.int .i64 32, .int .i32 x1, .int .i64 x2, .int .u64 x3, .int .i64 x4, .int .u64 x5, .int .u64 x6, .int .u64 x7, .int .u64 x8] 62 (0, 0)) := by rw [huG]; exact blk_other_ (by omega) B1_b
  have B2_c : uG.heap[w3.heap.size]? = some (.cells #[.int .i64 32, .int .i32 y1, .int .i64 y2, .int .u64 y3, .int .i64 y4, .int .u64 y5, .int .u64 y6, .int .u64 y7, .int .u64 y8] 62 (0, 0)) := by rw [huG]; exact blk_other_ (by omega) B2_b
  have BC_c : uG.heap[w.heap.size]? = some (.cells #[.int .i64 c, .bool false, .bool false, .bool false, .bool false, .bool false] 46 (0, 0)) := by rw [huG]; exact blk_other_ (by omega) BC_b
  have BO_c : uG.heap[w.heap.size + 1 + 1]? = some (.cells #[.bool false] 4 (0, 0)) := by rw [huG]; exact blk_other_ (by omega) BO_b
  have BS_c : uG.heap[w.heap.size + 1]? = some (.cells #[.int .i64 s] 3 (0, 0)) := by rw [huG]; exact blk_put_at BS_b rfl
  have hbc : Below w.heap.size w uG := by rw [huG]; exact below_set hbb (by omega)
  have z_ : uF.cell? ⟨w.heap.size + 1, 0, none⟩ = some (.int .i64 0) := (blk_cell BS_b 0).trans rfl
  have y_ := blk_frozen BS_b 0
  refine one_ (i := 10) (N := none) #[true, true, true, true, true, true, true, true, true, true, true] rfl rfl (by kernel_rfl) (by decide) (fun K hK => ?_)
  refine skip_ (w1 := uG) (by rfl) rfl ?_ ?_
  · clear B1_b B2_b BC_b BS_b BO_b hbb B1_c B2_c BC_c BS_c BO_c hbc
    have HF := Lib.hid huG
    clear huG
    go_simp
    rw [HF.out]
  refine hK.out _ _ ⟨B1_c, B2_c⟩ (fun hHeld2 => ?_)
  clear hK K huG hHeld2 B1_b B2_b BC_b BS_b BO_b hbb z_ y_
  refine done_ (by kernel_rfl) ?_
  refine NoPanic.normal ?_
  have z0_ : uG.cell? ⟨w.heap.size, 0, none⟩ = some (.int .i64 c) := (blk_cell BC_c 0).trans rfl
  have y0_ := blk_frozen BC_c 0
  have z1_ : uG.cell? ⟨w.heap.size, 1, none⟩ = some (.bool false) := (blk_cell BC_c 1).trans rfl
  have y1_ := blk_frozen BC_c 1
  have z2_ : uG.cell? ⟨w.heap.size, 2, none⟩ = some (.bool false) := (blk_cell BC_c 2).trans rfl
  have y2_ := blk_frozen BC_c 2
  have z3_ : uG.cell? ⟨w.heap.size, 3, none⟩ = some (.bool false) := (blk_cell BC_c 3).trans rfl
  have y3_ := blk_frozen BC_c 3
  have z4_ : uG.cell? ⟨w.heap.size, 4, none⟩ = some (.bool false) := (blk_cell BC_c 4).trans rfl
  have y4_ := blk_frozen BC_c 4
  have z5_ : uG.cell? ⟨w.heap.size, 5, none⟩ = some (.bool false) := (blk_cell BC_c 5).trans rfl
  have y5_ := blk_frozen BC_c 5
  have zs_ : uG.cell? ⟨w.heap.size + 1, 0, none⟩ = some (.int .i64 s) := (blk_cell BS_c 0).trans rfl
  have ys_ := blk_frozen BS_c 0
  have zo_ : uG.cell? ⟨w.heap.size + 1 + 1, 0, none⟩ = some (.bool false) := (blk_cell BO_c 0).trans rfl
  have yo_ := blk_frozen BO_c 0
  have HC := Lib.hid (And.intro BC_c (And.intro BS_c (And.intro BO_c hbc)))
  clear BC_c BS_c BO_c hbc B1_c B2_c hc hs
  go_wp2_with (fail)
  clear z0_ y0_ z1_ y1_ z2_ y2_ z3_ y3_ z4_ y4_ z5_ y5_ zs_ ys_ zo_ yo_
  refine wp_region_noPanic ?_
  refine wp_at ?_
  intro v0 hv0
  obtain ⟨BC_c, BS_c, BO_c, hbc⟩ := HC.out
  clear HC
  have BC_d : v0.drew.heap[w.heap.size]? = some (.cells #[.int .i64 c, .bool (c == 0), .bool false, .bool false, .bool false, .bool false] 46 (0, 0)) := by rw [hv0]; exact blk_drew_ (blk_put_at BC_c rfl)
  have BS_d : v0.drew.heap[w.heap.size + 1]? = some (.cells #[.int .i64 s] 3 (0, 0)) := by rw [hv0]; exact blk_drew_ (blk_other_ (by omega) BS_c)
  have BO_d : v0.drew.heap[w.heap.size + 1 + 1]? = some (.cells #[.bool false] 4 (0, 0)) := by rw [hv0]; exact blk_drew_ (blk_other_ (by omega) BO_c)
  have hbd : Below w.heap.size w v0.drew := by rw [hv0]; exact below_drew (below_set hbc (Nat.le_refl _))
  clear hv0 BC_c BS_c BO_c hbc
  refine start_ (n := 5) (S := fun w' => w'.heap[w.heap.size]? = some (.cells #[.int .i64 c, .bool (c == 0), .bool false, .bool false, .bool false, .bool false] 46 (0, 0)) ∧ w'.heap[w.heap.size + 1]? = some (.cells #[.int .i64 s] 3 (0, 0))) (ds := []) #[false, false, false, false, false] (by kernel_rfl) rfl rfl ⟨BC_d, BS_d⟩ (fun hHeld => ?_)
  generalize v0.drew = v1 at *
  refine take_ (i := 0) (N := some 110) (v := ?_) (a' := ?_) #[true, false, false, false, false] rfl rfl (by kernel_rfl) (fun _ _ _ h => h) (Or.inl ⟨by rfl, ?_⟩) hHeld ?_ ?_
  rotate_left
  · intro w' s0
    have d0 : w'.cell? ⟨w.heap.size, 0, none⟩ = some (.int .i64 c) := (blk_cell s0.1 0).trans rfl
    have d1 : w'.cell? ⟨w.heap.size, 1, none⟩ = some (.bool (c == 0)) := (blk_cell s0.1 1).trans rfl
    have d2 : w'.cell? ⟨w.heap.size, 2, none⟩ = some (.bool false) := (blk_cell s0.1 2).trans rfl
    have d3 : w'.cell? ⟨w.heap.size, 3, none⟩ = some (.bool false) := (blk_cell s0.1 3).trans rfl
    have d4 : w'.cell? ⟨w.heap.size, 4, none⟩ = some (.bool false) := (blk_cell s0.1 4).trans rfl
    have d5 : w'.cell? ⟨w.heap.size, 5, none⟩ = some (.bool false) := (blk_cell s0.1 5).trans rfl
    clear s0
    go_simp
    with_reducible rfl
  rotate_left
  · simp only [Act.put, s1_, s2_, s3_, i64_w, i32_w]
    rfl
  refine take_ (i := 1) (N := some 111) (v := ?_) (a' := ?_) #[true, true, false, false, false] rfl rfl (by kernel_rfl) (fun _ _ _ h => h) (Or.inl ⟨by rfl, ?_⟩) hHeld ?_ ?_
  rotate_left
  · intro w' s0
    have d0 : w'.cell? ⟨w.heap.size + 1, 0, none⟩ = some (.int .i64 s) := (blk_cell s0.2 0).trans rfl
    clear s0
    go_simp
    with_reducible rfl
  rotate_left
  · simp only [Act.put, s1_, s2_, s3_, i64_w, i32_w]
    rfl
  obtain ⟨vA, hvA⟩ : ∃ vA, vA = ((((((v1.setCell ⟨w.heap.size, 0, none⟩ (.int .i64 c)).setCell ⟨w.heap.size, 1, none⟩ (.bool (c == 0))).setCell ⟨w.heap.size, 2, none⟩ (.bool false)).setCell ⟨w.heap.size, 3, none⟩ (.bool false)).setCell ⟨w.heap.size, 4, none⟩ (.bool false)).setCell ⟨w.heap.size, 5, none⟩ (.bool false)) := ⟨_, rfl⟩
  have BC_e : vA.heap[w.heap.size]? = some (.cells #[.int .i64 c, .bool (c == 0), .bool false, .bool false, .bool false, .bool false] 46 (0, 0)) := by rw [hvA]; exact put6 BC_d (.int .i64 c) (.bool (c == 0)) (.bool false) (.bool false) (.bool false) (.bool false)
  have BS_e : vA.heap[w.heap.size + 1]? = some (.cells #[.int .i64 s] 3 (0, 0)) := by rw [hvA]; exact far6 (by omega) BS_d (.int .i64 c) (.bool (c == 0)) (.bool false) (.bool false) (.bool false) (.bool false)
  have BO_e : vA.heap[w.heap.size + 1 + 1]? = some (.cells #[.bool false] 4 (0, 0)) := by rw [hvA]; exact far6 (by omega) BO_d (.int .i64 c) (.bool (c == 0)) (.bool false) (.bool false) (.bool false) (.bool false)
  have hbe : Below w.heap.size w vA := by rw [hvA]; exact bel6 hbd (Nat.le_refl _) (.int .i64 c) (.bool (c == 0)) (.bool false) (.bool false) (.bool false) (.bool false)
  have z0_ : v1.cell? ⟨w.heap.size, 0, none⟩ = some (.int .i64 c) := (blk_cell BC_d 0).trans rfl
  have y0_ := blk_frozen BC_d 0
  have z1_ : v1.cell? ⟨w.heap.size, 1, none⟩ = some (.bool (c == 0)) := (blk_cell BC_d 1).trans rfl
  have y1_ := blk_frozen BC_d 1
  have z2_ : v1.cell? ⟨w.heap.size, 2, none⟩ = some (.bool false) := (blk_cell BC_d 2).trans rfl
  have y2_ := blk_frozen BC_d 2
  have z3_ : v1.cell? ⟨w.heap.size, 3, none⟩ = some (.bool false) := (blk_cell BC_d 3).trans rfl
  have y3_ := blk_frozen BC_d 3
  have z4_ : v1.cell? ⟨w.heap.size, 4, none⟩ = some (.bool false) := (blk_cell BC_d 4).trans rfl
  have y4_ := blk_frozen BC_d 4
  have z5_ : v1.cell? ⟨w.heap.size, 5, none⟩ = some (.bool false) := (blk_cell BC_d 5).trans rfl
  have y5_ := blk_frozen BC_d 5
  refine one_ (i := 2) (N := none) #[true, true, true, false, false] rfl rfl (by kernel_rfl) (by decide) (fun K hK => ?_)
  refine skip_ (w1 := vA) (by rfl) rfl ?_ ?_
  · clear BC_e BS_e BO_e hbe BC_d BS_d BO_d hbd hHeld
    have HF := Lib.hid hvA
    clear hvA
    go_simp
    rw [HF.out]
  refine hK.out _ _ ⟨BC_e, BS_e⟩ (fun hHeld2 => ?_)
  clear hK K hHeld hvA hHeld2 BC_d BS_d BO_d hbd z0_ y0_ z1_ y1_ z2_ y2_ z3_ y3_ z4_ y4_ z5_ y5_
  obtain ⟨vB, hvB⟩ : ∃ vB, vB = vA.setCell ⟨w.heap.size + 1, 0, none⟩ (.int .i64 s) := ⟨_, rfl⟩
  have BC_f : vB.heap[w.heap.size]? = some (.cells #[.int .i64 c, .bool (c == 0), .bool false, .bool false, .bool false, .bool false] 46 (0, 0)) := by rw [hvB]; exact blk_other_ (by omega) BC_e
  have BS_f : vB.heap[w.heap.size + 1]? = some (.cells #[.int .i64 s] 3 (0, 0)) := by rw [hvB]; exact blk_put_at BS_e rfl
  have BO_f : vB.heap[w.heap.size + 1 + 1]? = some (.cells #[.bool false] 4 (0, 0)) := by rw [hvB]; exact blk_other_ (by omega) BO_e
  have hbf : Below w.heap.size w vB := by rw [hvB]; exact below_set hbe (by omega)
  have z_ : vA.cell? ⟨w.heap.size + 1, 0, none⟩ = some (.int .i64 s) := (blk_cell BS_e 0).trans rfl
  have y_ := blk_frozen BS_e 0
  refine one_ (i := 3) (N := none) #[true, true, true, true, false] rfl rfl (by kernel_rfl) (by decide) (fun K hK => ?_)
  refine skip_ (w1 := vB) (by rfl) rfl ?_ ?_
  · clear BC_e BS_e BO_e hbe BC_f BS_f BO_f hbf
    have HF := Lib.hid hvB
    clear hvB
    go_simp
    rw [HF.out]
  refine hK.out _ _ ⟨BC_f, BS_f⟩ (fun hHeld2 => ?_)
  clear hK K hvB hHeld2 BC_e BS_e BO_e hbe z_ y_
  obtain ⟨vC, hvC⟩ : ∃ vC, vC = vB.setCell ⟨w.heap.size + 1 + 1, 0, none⟩ (.bool true) := ⟨_, rfl⟩
  have BC_g : vC.heap[w.heap.size]? = some (.cells #[.int .i64 c, .bool (c == 0), .bool false, .bool false, .bool false, .bool false] 46 (0, 0)) := by rw [hvC]; exact blk_other_ (by omega) BC_f
  have BS_g : vC.heap[w.heap.size + 1]? = some (.cells #[.int .i64 s] 3 (0, 0)) := by rw [hvC]; exact blk_other_ (by omega) BS_f
  have BO_g : vC.heap[w.heap.size + 1 + 1]? = some (.cells #[.bool true] 4 (0, 0)) := by rw [hvC]; exact blk_put_at BO_f rfl
  have hbg : Below w.heap.size w vC := by rw [hvC]; exact below_set hbf (by omega)
  have z_ : vB.cell? ⟨w.heap.size + 1 + 1, 0, none⟩ = some (.bool false) := (blk_cell BO_f 0).trans rfl
  have y_ := blk_frozen BO_f 0
  refine one_ (i := 4) (N := none) #[true, true, true, true, true] rfl rfl (by kernel_rfl) (by decide) (fun K hK => ?_)
  refine skip_ (w1 := vC) (by rfl) rfl ?_ ?_
  · clear BC_g BS_g BO_g hbg BC_f BS_f BO_f hbf
    have HF := Lib.hid hvC
    clear hvC
    go_simp
    rw [HF.out]
  refine hK.out _ _ ⟨BC_g, BS_g⟩ (fun hHeld2 => ?_)
  clear hK K hvC hHeld2 BC_f BS_f BO_f hbf z_ y_
  refine done_ (by kernel_rfl) ?_
  refine NoPanic.normal ?_
  go_wp2_with (fail)
  refine leaves_cons (f := 49) (args := #[.pointer (some ⟨w.heap.size, 0, none⟩), .pointer (some ⟨w.heap.size + 1, 0, none⟩), .pointer (some ⟨w.heap.size + 1 + 1, 0, none⟩)]) (by simp) (by simp [go_sem]) ?_
  refine (catch_cmp _ _ _ _).mono ?_
  rintro e u' w'' ⟨rfl, rfl, rfl⟩
  have c0 := (blk_cell BC_g 0).trans (show _ = some (Value.int .i64 c) from rfl)
  have c1 := (blk_cell BC_g 1).trans (show _ = some (Value.bool (c == 0)) from rfl)
  have c2 := (blk_cell BC_g 2).trans (show _ = some (Value.bool false) from rfl)
  have c3 := (blk_cell BC_g 3).trans (show _ = some (Value.bool false) from rfl)
  have c4 := (blk_cell BC_g 4).trans (show _ = some (Value.bool false) from rfl)
  have c5 := (blk_cell BC_g 5).trans (show _ = some (Value.bool false) from rfl)
  have cs := (blk_cell BS_g 0).trans (show _ = some (Value.int .i64 s) from rfl)
  have co := (blk_cell BO_g 0).trans (show _ = some (Value.bool true) from rfl)
  simp [Leaves, settle, results, Try.results19, go_sem, c0, c1, c2, c3, c4, c5, cs, co]
  exact hbg
set_option maxHeartbeats 4000000 in
set_option maxRecDepth 100000 in
theorem cmp64 (S1 S2 : Value) (x1 x2 x3 x4 x5 x6 x7 x8 y1 y2 y3 y4 y5 y6 y7 y8 c s : Int) (w : World) (hx : IsOf w 64 S1 x1 x2 x3 x4 x5 x6 x7 x8) (hy : IsOf w 64 S2 y1 y2 y3 y4 y5 y6 y7 y8)
    (hc : ∀ W, Calls Try.prog 52 #[.int .i64 x2, .int .i64 y2] W fun e W' => e = .returned (.int .i64 c) ∧ Below W.heap.size W W')
    (hs : ∀ W, Calls Try.prog 53 #[.int .i64 x2] W fun e W' => e = .returned (.int .i64 s) ∧ Below W.heap.size W W') :
    Calls Try.prog 19 #[.int .i64 64, S1, S2] w fun e w' => e = .returned (.tuple #[.agg #[.int .i64 c, .bool (c == 0), .bool false, .bool false, .bool false, .bool false], .int .i64 s, .bool true]) ∧ Below w.heap.size w w' := by
  have hmf : ∀ (fn : Fn) (first cap : Array Value) (w : World), (Instr.makeFunc fn first cap).run Try.prog w = .ok (.func fn first cap) w := fun _ _ _ _ => rfl
  go_enter_defers Try.func19, Try.ntmps19
  go_wp2_with (go_at_call 23; fail)
  clear hmf
  refine calls_at ?_
  intro w0 hw0
  have BC_0 : w0.heap[w.heap.size]? = some (.cells #[.int .i64 0, .bool false, .bool false, .bool false, .bool false, .bool false] 46 (0, 0)) := by rw [hw0]; exact blk_alloc_ (blk_alloc_ (blk_new_at rfl))
  have BS_0 : w0.heap[w.heap.size + 1]? = some (.cells #[.int .i64 0] 3 (0, 0)) := by rw [hw0]; exact blk_alloc_ (blk_new_at (by simp))
  have BO_0 : w0.heap[w.heap.size + 1 + 1]? = some (.cells #[.bool false] 4 (0, 0)) := by rw [hw0]; exact blk_new_at (by simp)
  have hb0 : Below w.heap.size w w0 := by rw [hw0]; exact below_alloc (below_alloc (below_alloc (Below.refl _ _) _) _) _
  have sz0 : w.heap.size + 3 ≤ w0.heap.size := by rw [hw0]; simp
  clear hw0
  refine (hx w0 hb0).mono ?_
  rintro e w1 ⟨rfl, hb_⟩
  have BC_1 := blk_below BC_0 hb_
  have BS_1 := blk_below BS_0 hb_
  have BO_1 := blk_below BO_0 hb_
  have hb1 := hb0.trans (hb_.mono hb0.size)
  have sz1 : w.heap.size + 3 ≤ w1.heap.size := Nat.le_trans sz0 hb_.size
  clear BC_0 BS_0 BO_0 hb_ hb0 sz0 hx
  go_wp2_with (go_at_call 23; fail)
  refine calls_at ?_
  intro w2 hw2
  have BC_2 : w2.heap[w.heap.size]? = some (.cells #[.int .i64 0, .bool false, .bool false, .bool false, .bool false, .bool false] 46 (0, 0)) := by rw [hw2]; exact blk_alloc_ BC_1
  have BS_2 : w2.heap[w.heap.size + 1]? = some (.cells #[.int .i64 0] 3 (0, 0)) := by rw [hw2]; exact blk_alloc_ BS_1
  have BO_2 : w2.heap[w.heap.size + 1 + 1]? = some (.cells #[.bool false] 4 (0, 0)) := by rw [hw2]; exact blk_alloc_ BO_1
  have BX_2 : w2.heap[w1.heap.size]? = some (.cells #[.int .i64 64, .int .i32 x1, .int .i64 x2, .int .u64 x3, .int .i64 x4, .int .u64 x5, .int .u64 x6, .int .u64 x7, .int .u64 x8] 62 (0, 0)) := by rw [hw2]; exact blk_new_at rfl
  have hb2 : Below w.heap.size w w2 := by rw [hw2]; exact below_alloc hb1 _
  have sz2 : w1.heap.size + 1 ≤ w2.heap.size := by rw [hw2]; simp
  clear hw2 BC_1 BS_1 BO_1 hb1
  refine (hy w2 hb2).mono ?_
  rintro e w3 ⟨rfl, hb_⟩
  have BC_3 := blk_below BC_2 hb_
  have BS_3 := blk_below BS_2 hb_
  have BO_3 := blk_below BO_2 hb_
  have BX_3 := blk_below BX_2 hb_
  have hb3 := hb2.trans (hb_.mono hb2.size)
  have sz3 : w1.heap.size + 1 ≤ w3.heap.size := Nat.le_trans sz2 hb_.size
  clear BC_2 BS_2 BO_2 BX_2 hb_ hb2 sz2 hy
  go_wp2_with (fail)
  refine wp_at ?_
  intro w4 hw4
  have BC_4 : w4.heap[w.heap.size]? = some (.cells #[.int .i64 0, .bool false, .bool false, .bool false, .bool false, .bool false] 46 (0, 0)) := by rw [hw4]; exact blk_alloc_ BC_3
  have BS_4 : w4.heap[w.heap.size + 1]? = some (.cells #[.int .i64 0] 3 (0, 0)) := by rw [hw4]; exact blk_alloc_ BS_3
  have BO_4 : w4.heap[w.heap.size + 1 + 1]? = some (.cells #[.bool false] 4 (0, 0)) := by rw [hw4]; exact blk_alloc_ BO_3
  have BX_4 : w4.heap[w1.heap.size]? = some (.cells #[.int .i64 64, .int .i32 x1, .int .i64 x2, .int .u64 x3, .int .i64 x4, .int .u64 x5, .int .u64 x6, .int .u64 x7, .int .u64 x8] 62 (0, 0)) := by rw [hw4]; exact blk_alloc_ BX_3
  have BY_4 : w4.heap[w3.heap.size]? = some (.cells #[.int .i64 64, .int .i32 y1, .int .i64 y2, .int .u64 y3, .int .i64 y4, .int .u64 y5, .int .u64 y6, .int .u64 y7, .int .u64 y8] 62 (0, 0)) := by rw [hw4]; exact blk_new_at rfl
  have hb4 : Below w.heap.size w w4 := by rw [hw4]; exact below_alloc hb3 _
  have sz4 : w3.heap.size + 1 ≤ w4.heap.size := by rw [hw4]; simp
  clear hw4 BC_3 BS_3 BO_3 BX_3 hb3
  refine wp_region_noPanic ?_
  refine wp_at ?_
  intro u0 hu0
  have B1_a0 : u0.drew.heap[w1.heap.size]? = some (.cells #[.int .i64 64, .int .i32 x1, .int .i64 x2, .int .u64 x3, .int .i64 x4, .int .u64 x5, .int .u64 x6, .int .u64 x7, .int .u64 x8] 62 (0, 0)) := by rw [hu0]; exact blk_drew_ BX_4
  have B2_a0 : u0.drew.heap[w3.heap.size]? = some (.cells #[.int .i64 64, .int .i32 y1, .int .i64 y2, .int .u64 y3, .int .i64 y4, .int .u64 y5, .int .u64 y6, .int .u64 y7, .int .u64 y8] 62 (0, 0)) := by rw [hu0]; exact blk_drew_ BY_4
  have BC_a0 : u0.drew.heap[w.heap.size]? = some (.cells #[.int .i64 0, .bool false, .bool false, .bool false, .bool false, .bool false] 46 (0, 0)) := by rw [hu0]; exact blk_drew_ BC_4
  have BS_a0 : u0.drew.heap[w.heap.size + 1]? = some (.cells #[.int .i64 0] 3 (0, 0)) := by rw [hu0]; exact blk_drew_ BS_4
  have BO_a0 : u0.drew.heap[w.heap.size + 1 + 1]? = some (.cells #[.bool false] 4 (0, 0)) := by rw [hu0]; exact blk_drew_ BO_4
  have hba0 : Below w.heap.size w u0.drew := by rw [hu0]; exact below_drew hb4
  clear hu0 BX_4 BY_4 BC_4 BS_4 BO_4 hb4
  refine start_ (n := 11) (S := fun w' => w'.heap[w1.heap.size]? = some (.cells #[.int .i64 64, .int .i32 x1, .int .i64 x2, .int .u64 x3, .int .i64 x4, .int .u64 x5, .int .u64 x6, .int .u64 x7, .int .u64 x8] 62 (0, 0)) ∧ w'.heap[w3.heap.size]? = some (.cells #[.int .i64 64, .int .i32 y1, .int .i64 y2, .int .u64 y3, .int .i64 y4, .int .u64 y5, .int .u64 y6, .int .u64 y7, .int .u64 y8] 62 (0, 0))) (ds := []) #[false, false, false, false, false, false, false, false, false, false, false] (by kernel_rfl) rfl rfl ⟨B1_a0, B2_a0⟩ (fun hHeld => ?_)
  generalize u0.drew = u1 at *
  refine pure_ (i := 0) (N := some 73) (v := ?_) (a' := ?_) #[true, false, false, false, false, false, false, false, false, false, false] rfl rfl (by kernel_rfl) (fun _ _ _ h => h) (Or.inl ⟨by rfl, ?_⟩) ?_ ?_
  rotate_left
  · intro w'
    go_simp
    with_reducible rfl
  rotate_left
  · simp only [Act.put, s1_, s2_, s3_, i64_w, i32_w]
    rfl
  refine pure_ (i := 2) (N := some 75) (v := ?_) (a' := ?_) #[true, false, true, false, false, false, false, false, false, false, false] rfl rfl (by kernel_rfl) (fun _ _ _ h => h) (Or.inl ⟨by rfl, ?_⟩) ?_ ?_
  rotate_left
  · intro w'
    go_simp
    with_reducible rfl
  rotate_left
  · simp only [Act.put, s1_, s2_, s3_, i64_w, i32_w]
    rfl
  refine pure_ (i := 5) (N := some 78) (v := ?_) (a' := ?_) #[true, false, true, false, false, true, false, false, false, false, false] rfl rfl (by kernel_rfl) (fun _ _ _ h => h) (Or.inl ⟨by rfl, ?_⟩) ?_ ?_
  rotate_left
  · intro w'
    go_simp
    with_reducible rfl
  rotate_left
  · simp only [Act.put, s1_, s2_, s3_, i64_w, i32_w]
    rfl
  refine take_ (i := 1) (N := some 74) (v := ?_) (a' := ?_) #[true, true, true, false, false, true, false, false, false, false, false] rfl rfl (by kernel_rfl) (fun _ _ _ h => h) (Or.inl ⟨by rfl, ?_⟩) hHeld ?_ ?_
  rotate_left
  · intro w' s0
    have d2 : w'.cell? ⟨w1.heap.size, 2, none⟩ = some (.int .i64 x2) := (blk_cell s0.1 2).trans rfl
    clear s0
    go_simp
    with_reducible rfl
  rotate_left
  · simp only [Act.put, s1_, s2_, s3_, i64_w, i32_w]
    rfl
  refine take_ (i := 3) (N := some 76) (v := ?_) (a' := ?_) #[true, true, true, true, false, true, false, false, false, false, false] rfl rfl (by kernel_rfl) (fun _ _ _ h => h) (Or.inl ⟨by rfl, ?_⟩) hHeld ?_ ?_
  rotate_left
  · intro w' s0
    have d2 : w'.cell? ⟨w3.heap.size, 2, none⟩ = some (.int .i64 y2) := (blk_cell s0.2 2).trans rfl
    clear s0
    go_simp
    with_reducible rfl
  rotate_left
  · simp only [Act.put, s1_, s2_, s3_, i64_w, i32_w]
    rfl
  refine take_ (i := 6) (N := some 79) (v := ?_) (a' := ?_) #[true, true, true, true, false, true, true, false, false, false, false] rfl rfl (by kernel_rfl) (fun _ _ _ h => h) (Or.inl ⟨by rfl, ?_⟩) hHeld ?_ ?_
  rotate_left
  · intro w' s0
    have d2 : w'.cell? ⟨w1.heap.size, 2, none⟩ = some (.int .i64 x2) := (blk_cell s0.1 2).trans rfl
    clear s0
    go_simp
    with_reducible rfl
  rotate_left
  · simp only [Act.put, s1_, s2_, s3_, i64_w, i32_w]
    rfl
  refine one_ (i := 4) (N := some 77) #[true, true, true, true, true, true, true, false, false, false, false] rfl rfl (by kernel_rfl) (by decide) (fun K hK => ?_)
  refine goes_ Try.func52 (by kernel_rfl) rfl #[.int .i64 x2, .int .i64 y2] (by rfl) rfl rfl (by (try simp only [List.map_toArray, List.map_cons, List.map_nil]); rfl) ?_
  refine (hc u1).mono ?_
  rintro e u2 ⟨rfl, hb_⟩
  refine ⟨_, rfl, ?_⟩
  have B1_a1 := blk_below B1_a0 hb_
  have B2_a1 := blk_below B2_a0 hb_
  have BC_a1 := blk_below BC_a0 hb_
  have BS_a1 := blk_below BS_a0 hb_
  have BO_a1 := blk_below BO_a0 hb_
  have hba1 := hba0.trans (hb_.mono hba0.size)
  clear B1_a0 B2_a0 BC_a0 BS_a0 BO_a0 hba0
  refine hK.out _ _ ⟨B1_a1, B2_a1⟩ (fun hHeld2 => ?_)
  clear hK K hb_ hHeld
  have hHeld := hHeld2
  clear hHeld2
  refine norm_ (a' := ?_) ?_ ?_
  rotate_left
  · show Act.put _ (some 77) _ = _
    simp only [Act.put, s1_, s2_, s3_]
    rfl
  refine pure_ (i := 8) (N := some 81) (v := ?_) (a' := ?_) #[true, true, true, true, true, true, true, false, true, false, false] rfl rfl (by kernel_rfl) (fun _ _ _ h => h) (Or.inl ⟨by rfl, ?_⟩) ?_ ?_
  rotate_left
  · intro w'
    go_simp
    with_reducible rfl
  rotate_left
  · simp only [Act.put, s1_, s2_, s3_, i64_w, i32_w]
    rfl
  refine one_ (i := 7) (N := some 80) #[true, true, true, true, true, true, true, true, true, false, false] rfl rfl (by kernel_rfl) (by decide) (fun K hK => ?_)
  refine goes_ Try.func53 (by kernel_rfl) rfl #[.int .i64 x2] (by rfl) rfl rfl (by (try simp only [List.map_toArray, List.map_cons, List.map_nil]); rfl) ?_
  refine (hs u2).mono ?_
  rintro e u3 ⟨rfl, hb_⟩
  refine ⟨_, rfl, ?_⟩
  have B1_a2 := blk_below B1_a1 hb_
  have B2_a2 := blk_below B2_a1 hb_
  have BC_a2 := blk_below BC_a1 hb_
  have BS_a2 := blk_below BS_a1 hb_
  have BO_a2 := blk_below BO_a1 hb_
  have hba2 := hba1.trans (hb_.mono hba1.size)
  clear B1_a1 B2_a1 BC_a1 BS_a1 BO_a1 hba1
  refine hK.out _ _ ⟨B1_a2, B2_a2⟩ (fun hHeld2 => ?_)
  clear hK K hb_ hHeld
  have hHeld := hHeld2
  clear hHeld2
  refine norm_ (a' := ?_) ?_ ?_
  rotate_left
  · show Act.put _ (some 80) _ = _
    simp only [Act.put, s1_, s2_, s3_]
    rfl
  obtain ⟨uF, huF⟩ : ∃ uF, uF = (u3.setCell ⟨w.heap.size, 0, none⟩ (.int .i64 c)) := ⟨_, rfl⟩
  have l3 := blk_lt B2_a2
  have l4 := blk_lt B1_a2
  have B1_b : uF.heap[w1.heap.size]? = some (.cells #[.int .i64 64, .int .i32 x1, .int .i64 x2, .int .u64 x3, .int .i64 x4, .int .u64 x5, .int .u64 x6, .int .u64 x7, .int .u64 x8] 62 (0, 0)) := by rw [huF]; exact blk_other_ (by omega) B1_a2
  have B2_b : uF.heap[w3.heap.size]? = some (.cells #[.int .i64 64, .int .i32 y1, .int .i64 y2, .int .u64 y3, .int .i64 y4, .int .u64 y5, .int .u64 y6, .int .u64 y7, .int .u64 y8] 62 (0, 0)) := by rw [huF]; exact blk_other_ (by omega) B2_a2
  have BS_b : uF.heap[w.heap.size + 1]? = some (.cells #[.int .i64 0] 3 (0, 0)) := by rw [huF]; exact blk_other_ (by omega) BS_a2
  have BO_b : uF.heap[w.heap.size + 1 + 1]? = some (.cells #[.bool false] 4 (0, 0)) := by rw [huF]; exact blk_other_ (by omega) BO_a2
  have BC_b : uF.heap[w.heap.size]? = some (.cells #[.int .i64 c, .bool false, .bool false, .bool false, .bool false, .bool false] 46 (0, 0)) := by rw [huF]; exact blk_put_at BC_a2 rfl
  have hbb : Below w.heap.size w uF := by rw [huF]; exact below_set hba2 (Nat.le_refl _)
  have z0_ : u3.cell? ⟨w.heap.size, 0, none⟩ = some (.int .i64 0) := (blk_cell BC_a2 0).trans rfl
  have y0_ := blk_frozen BC_a2 0
  refine one_ (i := 9) (N := none) #[true, true, true, true, true, true, true, true, true, true, false] rfl rfl (by kernel_rfl) (by decide) (fun K hK => ?_)
  refine skip_ (w1 := uF) (by rfl) rfl ?_ ?_
  · clear B1_b B2_b BC_b BS_b BO_b hbb B1_a2 B2_a2 BC_a2 BS_a2 BO_a2 hba2 hHeld
    have HF := Lib.hid huF
    clear huF
    go_simp
    rw [HF.out]
  refine hK.out _ _ ⟨B1_b, B2_b⟩ (fun hHeld2 => ?_)
  clear hK K hHeld huF hHeld2 B1_a2 B2_a2 BC_a2 BS_a2 BO_a2 hba2 z0_ y0_
  obtain ⟨uG, huG⟩ : ∃ uG, uG = uF.setCell ⟨w.heap.size + 1, 0, none⟩ (.int .i64 s) := ⟨_, rfl⟩
  have B1_c : uG.heap[w1.heap.size]? = some (.cells #[.int .i64 64, .int .i32 x1, .int .i64 x2, .int .u64 x3, .int .i64 x4, .int .u64 x5, .int .u64 x6, .int .u64 x7, .int .u64 x8] 62 (0, 0)) := by rw [huG]; exact blk_other_ (by omega) B1_b
  have B2_c : uG.heap[w3.heap.size]? = some (.cells #[.int .i64 64, .int .i32 y1, .int .i64 y2, .int .u64 y3, .int .i64 y4, .int .u64 y5, .int .u64 y6, .int .u64 y7, .int .u64 y8] 62 (0, 0)) := by rw [huG]; exact blk_other_ (by omega) B2_b
  have BC_c : uG.heap[w.heap.size]? = some (.cells #[.int .i64 c, .bool false, .bool false, .bool false, .bool false, .bool false] 46 (0, 0)) := by rw [huG]; exact blk_other_ (by omega) BC_b
  have BO_c : uG.heap[w.heap.size + 1 + 1]? = some (.cells #[.bool false] 4 (0, 0)) := by rw [huG]; exact blk_other_ (by omega) BO_b
  have BS_c : uG.heap[w.heap.size + 1]? = some (.cells #[.int .i64 s] 3 (0, 0)) := by rw [huG]; exact blk_put_at BS_b rfl
  have hbc : Below w.heap.size w uG := by rw [huG]; exact below_set hbb (by omega)
  have z_ : uF.cell? ⟨w.heap.size + 1, 0, none⟩ = some (.int .i64 0) := (blk_cell BS_b 0).trans rfl
  have y_ := blk_frozen BS_b 0
  refine one_ (i := 10) (N := none) #[true, true, true, true, true, true, true, true, true, true, true] rfl rfl (by kernel_rfl) (by decide) (fun K hK => ?_)
  refine skip_ (w1 := uG) (by rfl) rfl ?_ ?_
  · clear B1_b B2_b BC_b BS_b BO_b hbb B1_c B2_c BC_c BS_c BO_c hbc
    have HF := Lib.hid huG
    clear huG
    go_simp
    rw [HF.out]
  refine hK.out _ _ ⟨B1_c, B2_c⟩ (fun hHeld2 => ?_)
  clear hK K huG hHeld2 B1_b B2_b BC_b BS_b BO_b hbb z_ y_
  refine done_ (by kernel_rfl) ?_
  refine NoPanic.normal ?_
  have z0_ : uG.cell? ⟨w.heap.size, 0, none⟩ = some (.int .i64 c) := (blk_cell BC_c 0).trans rfl
  have y0_ := blk_frozen BC_c 0
  have z1_ : uG.cell? ⟨w.heap.size, 1, none⟩ = some (.bool false) := (blk_cell BC_c 1).trans rfl
  have y1_ := blk_frozen BC_c 1
  have z2_ : uG.cell? ⟨w.heap.size, 2, none⟩ = some (.bool false) := (blk_cell BC_c 2).trans rfl
  have y2_ := blk_frozen BC_c 2
  have z3_ : uG.cell? ⟨w.heap.size, 3, none⟩ = some (.bool false) := (blk_cell BC_c 3).trans rfl
  have y3_ := blk_frozen BC_c 3
  have z4_ : uG.cell? ⟨w.heap.size, 4, none⟩ = some (.bool false) := (blk_cell BC_c 4).trans rfl
  have y4_ := blk_frozen BC_c 4
  have z5_ : uG.cell? ⟨w.heap.size, 5, none⟩ = some (.bool false) := (blk_cell BC_c 5).trans rfl
  have y5_ := blk_frozen BC_c 5
  have zs_ : uG.cell? ⟨w.heap.size + 1, 0, none⟩ = some (.int .i64 s) := (blk_cell BS_c 0).trans rfl
  have ys_ := blk_frozen BS_c 0
  have zo_ : uG.cell? ⟨w.heap.size + 1 + 1, 0, none⟩ = some (.bool false) := (blk_cell BO_c 0).trans rfl
  have yo_ := blk_frozen BO_c 0
  have HC := Lib.hid (And.intro BC_c (And.intro BS_c (And.intro BO_c hbc)))
  clear BC_c BS_c BO_c hbc B1_c B2_c hc hs
  go_wp2_with (fail)
  clear z0_ y0_ z1_ y1_ z2_ y2_ z3_ y3_ z4_ y4_ z5_ y5_ zs_ ys_ zo_ yo_
  refine wp_region_noPanic ?_
  refine wp_at ?_
  intro v0 hv0
  obtain ⟨BC_c, BS_c, BO_c, hbc⟩ := HC.out
  clear HC
  have BC_d : v0.drew.heap[w.heap.size]? = some (.cells #[.int .i64 c, .bool (c == 0), .bool false, .bool false, .bool false, .bool false] 46 (0, 0)) := by rw [hv0]; exact blk_drew_ (blk_put_at BC_c rfl)
  have BS_d : v0.drew.heap[w.heap.size + 1]? = some (.cells #[.int .i64 s] 3 (0, 0)) := by rw [hv0]; exact blk_drew_ (blk_other_ (by omega) BS_c)
  have BO_d : v0.drew.heap[w.heap.size + 1 + 1]? = some (.cells #[.bool false] 4 (0, 0)) := by rw [hv0]; exact blk_drew_ (blk_other_ (by omega) BO_c)
  have hbd : Below w.heap.size w v0.drew := by rw [hv0]; exact below_drew (below_set hbc (Nat.le_refl _))
  clear hv0 BC_c BS_c BO_c hbc
  refine start_ (n := 5) (S := fun w' => w'.heap[w.heap.size]? = some (.cells #[.int .i64 c, .bool (c == 0), .bool false, .bool false, .bool false, .bool false] 46 (0, 0)) ∧ w'.heap[w.heap.size + 1]? = some (.cells #[.int .i64 s] 3 (0, 0))) (ds := []) #[false, false, false, false, false] (by kernel_rfl) rfl rfl ⟨BC_d, BS_d⟩ (fun hHeld => ?_)
  generalize v0.drew = v1 at *
  refine take_ (i := 0) (N := some 110) (v := ?_) (a' := ?_) #[true, false, false, false, false] rfl rfl (by kernel_rfl) (fun _ _ _ h => h) (Or.inl ⟨by rfl, ?_⟩) hHeld ?_ ?_
  rotate_left
  · intro w' s0
    have d0 : w'.cell? ⟨w.heap.size, 0, none⟩ = some (.int .i64 c) := (blk_cell s0.1 0).trans rfl
    have d1 : w'.cell? ⟨w.heap.size, 1, none⟩ = some (.bool (c == 0)) := (blk_cell s0.1 1).trans rfl
    have d2 : w'.cell? ⟨w.heap.size, 2, none⟩ = some (.bool false) := (blk_cell s0.1 2).trans rfl
    have d3 : w'.cell? ⟨w.heap.size, 3, none⟩ = some (.bool false) := (blk_cell s0.1 3).trans rfl
    have d4 : w'.cell? ⟨w.heap.size, 4, none⟩ = some (.bool false) := (blk_cell s0.1 4).trans rfl
    have d5 : w'.cell? ⟨w.heap.size, 5, none⟩ = some (.bool false) := (blk_cell s0.1 5).trans rfl
    clear s0
    go_simp
    with_reducible rfl
  rotate_left
  · simp only [Act.put, s1_, s2_, s3_, i64_w, i32_w]
    rfl
  refine take_ (i := 1) (N := some 111) (v := ?_) (a' := ?_) #[true, true, false, false, false] rfl rfl (by kernel_rfl) (fun _ _ _ h => h) (Or.inl ⟨by rfl, ?_⟩) hHeld ?_ ?_
  rotate_left
  · intro w' s0
    have d0 : w'.cell? ⟨w.heap.size + 1, 0, none⟩ = some (.int .i64 s) := (blk_cell s0.2 0).trans rfl
    clear s0
    go_simp
    with_reducible rfl
  rotate_left
  · simp only [Act.put, s1_, s2_, s3_, i64_w, i32_w]
    rfl
  obtain ⟨vA, hvA⟩ : ∃ vA, vA = ((((((v1.setCell ⟨w.heap.size, 0, none⟩ (.int .i64 c)).setCell ⟨w.heap.size, 1, none⟩ (.bool (c == 0))).setCell ⟨w.heap.size, 2, none⟩ (.bool false)).setCell ⟨w.heap.size, 3, none⟩ (.bool false)).setCell ⟨w.heap.size, 4, none⟩ (.bool false)).setCell ⟨w.heap.size, 5, none⟩ (.bool false)) := ⟨_, rfl⟩
  have BC_e : vA.heap[w.heap.size]? = some (.cells #[.int .i64 c, .bool (c == 0), .bool false, .bool false, .bool false, .bool false] 46 (0, 0)) := by rw [hvA]; exact put6 BC_d (.int .i64 c) (.bool (c == 0)) (.bool false) (.bool false) (.bool false) (.bool false)
  have BS_e : vA.heap[w.heap.size + 1]? = some (.cells #[.int .i64 s] 3 (0, 0)) := by rw [hvA]; exact far6 (by omega) BS_d (.int .i64 c) (.bool (c == 0)) (.bool false) (.bool false) (.bool false) (.bool false)
  have BO_e : vA.heap[w.heap.size + 1 + 1]? = some (.cells #[.bool false] 4 (0, 0)) := by rw [hvA]; exact far6 (by omega) BO_d (.int .i64 c) (.bool (c == 0)) (.bool false) (.bool false) (.bool false) (.bool false)
  have hbe : Below w.heap.size w vA := by rw [hvA]; exact bel6 hbd (Nat.le_refl _) (.int .i64 c) (.bool (c == 0)) (.bool false) (.bool false) (.bool false) (.bool false)
  have z0_ : v1.cell? ⟨w.heap.size, 0, none⟩ = some (.int .i64 c) := (blk_cell BC_d 0).trans rfl
  have y0_ := blk_frozen BC_d 0
  have z1_ : v1.cell? ⟨w.heap.size, 1, none⟩ = some (.bool (c == 0)) := (blk_cell BC_d 1).trans rfl
  have y1_ := blk_frozen BC_d 1
  have z2_ : v1.cell? ⟨w.heap.size, 2, none⟩ = some (.bool false) := (blk_cell BC_d 2).trans rfl
  have y2_ := blk_frozen BC_d 2
  have z3_ : v1.cell? ⟨w.heap.size, 3, none⟩ = some (.bool false) := (blk_cell BC_d 3).trans rfl
  have y3_ := blk_frozen BC_d 3
  have z4_ : v1.cell? ⟨w.heap.size, 4, none⟩ = some (.bool false) := (blk_cell BC_d 4).trans rfl
  have y4_ := blk_frozen BC_d 4
  have z5_ : v1.cell? ⟨w.heap.size, 5, none⟩ = some (.bool false) := (blk_cell BC_d 5).trans rfl
  have y5_ := blk_frozen BC_d 5
  refine one_ (i := 2) (N := none) #[true, true, true, false, false] rfl rfl (by kernel_rfl) (by decide) (fun K hK => ?_)
  refine skip_ (w1 := vA) (by rfl) rfl ?_ ?_
  · clear BC_e BS_e BO_e hbe BC_d BS_d BO_d hbd hHeld
    have HF := Lib.hid hvA
    clear hvA
    go_simp
    rw [HF.out]
  refine hK.out _ _ ⟨BC_e, BS_e⟩ (fun hHeld2 => ?_)
  clear hK K hHeld hvA hHeld2 BC_d BS_d BO_d hbd z0_ y0_ z1_ y1_ z2_ y2_ z3_ y3_ z4_ y4_ z5_ y5_
  obtain ⟨vB, hvB⟩ : ∃ vB, vB = vA.setCell ⟨w.heap.size + 1, 0, none⟩ (.int .i64 s) := ⟨_, rfl⟩
  have BC_f : vB.heap[w.heap.size]? = some (.cells #[.int .i64 c, .bool (c == 0), .bool false, .bool false, .bool false, .bool false] 46 (0, 0)) := by rw [hvB]; exact blk_other_ (by omega) BC_e
  have BS_f : vB.heap[w.heap.size + 1]? = some (.cells #[.int .i64 s] 3 (0, 0)) := by rw [hvB]; exact blk_put_at BS_e rfl
  have BO_f : vB.heap[w.heap.size + 1 + 1]? = some (.cells #[.bool false] 4 (0, 0)) := by rw [hvB]; exact blk_other_ (by omega) BO_e
  have hbf : Below w.heap.size w vB := by rw [hvB]; exact below_set hbe (by omega)
  have z_ : vA.cell? ⟨w.heap.size + 1, 0, none⟩ = some (.int .i64 s) := (blk_cell BS_e 0).trans rfl
  have y_ := blk_frozen BS_e 0
  refine one_ (i := 3) (N := none) #[true, true, true, true, false] rfl rfl (by kernel_rfl) (by decide) (fun K hK => ?_)
  refine skip_ (w1 := vB) (by rfl) rfl ?_ ?_
  · clear BC_e BS_e BO_e hbe BC_f BS_f BO_f hbf
    have HF := Lib.hid hvB
    clear hvB
    go_simp
    rw [HF.out]
  refine hK.out _ _ ⟨BC_f, BS_f⟩ (fun hHeld2 => ?_)
  clear hK K hvB hHeld2 BC_e BS_e BO_e hbe z_ y_
  obtain ⟨vC, hvC⟩ : ∃ vC, vC = vB.setCell ⟨w.heap.size + 1 + 1, 0, none⟩ (.bool true) := ⟨_, rfl⟩
  have BC_g : vC.heap[w.heap.size]? = some (.cells #[.int .i64 c, .bool (c == 0), .bool false, .bool false, .bool false, .bool false] 46 (0, 0)) := by rw [hvC]; exact blk_other_ (by omega) BC_f
  have BS_g : vC.heap[w.heap.size + 1]? = some (.cells #[.int .i64 s] 3 (0, 0)) := by rw [hvC]; exact blk_other_ (by omega) BS_f
  have BO_g : vC.heap[w.heap.size + 1 + 1]? = some (.cells #[.bool true] 4 (0, 0)) := by rw [hvC]; exact blk_put_at BO_f rfl
  have hbg : Below w.heap.size w vC := by rw [hvC]; exact below_set hbf (by omega)
  have z_ : vB.cell? ⟨w.heap.size + 1 + 1, 0, none⟩ = some (.bool false) := (blk_cell BO_f 0).trans rfl
  have y_ := blk_frozen BO_f 0
  refine one_ (i := 4) (N := none) #[true, true, true, true, true] rfl rfl (by kernel_rfl) (by decide) (fun K hK => ?_)
  refine skip_ (w1 := vC) (by rfl) rfl ?_ ?_
  · clear BC_g BS_g BO_g hbg BC_f BS_f BO_f hbf
    have HF := Lib.hid hvC
    clear hvC
    go_simp
    rw [HF.out]
  refine hK.out _ _ ⟨BC_g, BS_g⟩ (fun hHeld2 => ?_)
  clear hK K hvC hHeld2 BC_f BS_f BO_f hbf z_ y_
  refine done_ (by kernel_rfl) ?_
  refine NoPanic.normal ?_
  go_wp2_with (fail)
  refine leaves_cons (f := 49) (args := #[.pointer (some ⟨w.heap.size, 0, none⟩), .pointer (some ⟨w.heap.size + 1, 0, none⟩), .pointer (some ⟨w.heap.size + 1 + 1, 0, none⟩)]) (by simp) (by simp [go_sem]) ?_
  refine (catch_cmp _ _ _ _).mono ?_
  rintro e u' w'' ⟨rfl, rfl, rfl⟩
  have c0 := (blk_cell BC_g 0).trans (show _ = some (Value.int .i64 c) from rfl)
  have c1 := (blk_cell BC_g 1).trans (show _ = some (Value.bool (c == 0)) from rfl)
  have c2 := (blk_cell BC_g 2).trans (show _ = some (Value.bool false) from rfl)
  have c3 := (blk_cell BC_g 3).trans (show _ = some (Value.bool false) from rfl)
  have c4 := (blk_cell BC_g 4).trans (show _ = some (Value.bool false) from rfl)
  have c5 := (blk_cell BC_g 5).trans (show _ = some (Value.bool false) from rfl)
  have cs := (blk_cell BS_g 0).trans (show _ = some (Value.int .i64 s) from rfl)
  have co := (blk_cell BO_g 0).trans (show _ = some (Value.bool true) from rfl)
  simp [Leaves, settle, results, Try.results19, go_sem, c0, c1, c2, c3, c4, c5, cs, co]
  exact hbg
set_option maxHeartbeats 4000000 in
set_option maxRecDepth 100000 in
theorem cmp128 (S1 S2 : Value) (x1 x2 x3 x4 x5 x6 x7 x8 y1 y2 y3 y4 y5 y6 y7 y8 c s : Int) (b2 b3 b4 b5 : Bool) (w : World) (hx : IsOf w 128 S1 x1 x2 x3 x4 x5 x6 x7 x8) (hy : IsOf w 128 S2 y1 y2 y3 y4 y5 y6 y7 y8)
    (hc : ∀ W, Calls Try.prog 54 #[d128A x3 x4, d128A y3 y4] W fun e W' => e = .returned (.int .i64 c) ∧ Below W.heap.size W W')
    (h2 : ∀ W, Calls Try.prog 55 #[d128A x3 x4, d128A y3 y4] W fun e W' => e = .returned (.bool b2) ∧ Below W.heap.size W W')
    (h3 : ∀ W, Calls Try.prog 56 #[d128A x3 x4, d128A y3 y4] W fun e W' => e = .returned (.bool b3) ∧ Below W.heap.size W W')
    (h4 : ∀ W, Calls Try.prog 57 #[d128A x3 x4, d128A y3 y4] W fun e W' => e = .returned (.bool b4) ∧ Below W.heap.size W W')
    (h5 : ∀ W, Calls Try.prog 58 #[d128A x3 x4, d128A y3 y4] W fun e W' => e = .returned (.bool b5) ∧ Below W.heap.size W W')
    (hs : ∀ W, Calls Try.prog 59 #[d128A x3 x4] W fun e W' => e = .returned (.int .i64 s) ∧ Below W.heap.size W W') :
    Calls Try.prog 19 #[.int .i64 128, S1, S2] w fun e w' => e = .returned (.tuple #[.agg #[.int .i64 c, .bool (c == 0), .bool b2, .bool b3, .bool b4, .bool b5], .int .i64 s, .bool true]) ∧ Below w.heap.size w w' := by
  have hmf : ∀ (fn : Fn) (first cap : Array Value) (w : World), (Instr.makeFunc fn first cap).run Try.prog w = .ok (.func fn first cap) w := fun _ _ _ _ => rfl
  go_enter_defers Try.func19, Try.ntmps19
  go_wp2_with (go_at_call 23; fail)
  clear hmf
  refine calls_at ?_
  intro w0 hw0
  have BC_0 : w0.heap[w.heap.size]? = some (.cells #[.int .i64 0, .bool false, .bool false, .bool false, .bool false, .bool false] 46 (0, 0)) := by rw [hw0]; exact blk_alloc_ (blk_alloc_ (blk_new_at rfl))
  have BS_0 : w0.heap[w.heap.size + 1]? = some (.cells #[.int .i64 0] 3 (0, 0)) := by rw [hw0]; exact blk_alloc_ (blk_new_at (by simp))
  have BO_0 : w0.heap[w.heap.size + 1 + 1]? = some (.cells #[.bool false] 4 (0, 0)) := by rw [hw0]; exact blk_new_at (by simp)
  have hb0 : Below w.heap.size w w0 := by rw [hw0]; exact below_alloc (below_alloc (below_alloc (Below.refl _ _) _) _) _
  have sz0 : w.heap.size + 3 ≤ w0.heap.size := by rw [hw0]; simp
  clear hw0
  refine (hx w0 hb0).mono ?_
  rintro e w1 ⟨rfl, hb_⟩
  have BC_1 := blk_below BC_0 hb_
  have BS_1 := blk_below BS_0 hb_
  have BO_1 := blk_below BO_0 hb_
  have hb1 := hb0.trans (hb_.mono hb0.size)
  have sz1 : w.heap.size + 3 ≤ w1.heap.size := Nat.le_trans sz0 hb_.size
  clear BC_0 BS_0 BO_0 hb_ hb0 sz0 hx
  go_wp2_with (go_at_call 23; fail)
  refine calls_at ?_
  intro w2 hw2
  have BC_2 : w2.heap[w.heap.size]? = some (.cells #[.int .i64 0, .bool false, .bool false, .bool false, .bool false, .bool false] 46 (0, 0)) := by rw [hw2]; exact blk_alloc_ BC_1
  have BS_2 : w2.heap[w.heap.size + 1]? = some (.cells #[.int .i64 0] 3 (0, 0)) := by rw [hw2]; exact blk_alloc_ BS_1
  have BO_2 : w2.heap[w.heap.size + 1 + 1]? = some (.cells #[.bool false] 4 (0, 0)) := by rw [hw2]; exact blk_alloc_ BO_1
  have BX_2 : w2.heap[w1.heap.size]? = some (.cells #[.int .i64 128, .int .i32 x1, .int .i64 x2, .int .u64 x3, .int .i64 x4, .int .u64 x5, .int .u64 x6, .int .u64 x7, .int .u64 x8] 62 (0, 0)) := by rw [hw2]; exact blk_new_at rfl
  have hb2 : Below w.heap.size w w2 := by rw [hw2]; exact below_alloc hb1 _
  have sz2 : w1.heap.size + 1 ≤ w2.heap.size := by rw [hw2]; simp
  clear hw2 BC_1 BS_1 BO_1 hb1
  refine (hy w2 hb2).mono ?_
  rintro e w3 ⟨rfl, hb_⟩
  have BC_3 := blk_below BC_2 hb_
  have BS_3 := blk_below BS_2 hb_
  have BO_3 := blk_below BO_2 hb_
  have BX_3 := blk_below BX_2 hb_
  have hb3 := hb2.trans (hb_.mono hb2.size)
  have sz3 : w1.heap.size + 1 ≤ w3.heap.size := Nat.le_trans sz2 hb_.size
  clear BC_2 BS_2 BO_2 BX_2 hb_ hb2 sz2 hy
  go_upto_region 14 with (fail)
  refine wp_at ?_
  intro w4 hw4
  have BC_4 : w4.heap[w.heap.size]? = some (.cells #[.int .i64 0, .bool false, .bool false, .bool false, .bool false, .bool false] 46 (0, 0)) := by rw [hw4]; exact blk_alloc_ BC_3
  have BS_4 : w4.heap[w.heap.size + 1]? = some (.cells #[.int .i64 0] 3 (0, 0)) := by rw [hw4]; exact blk_alloc_ BS_3
  have BO_4 : w4.heap[w.heap.size + 1 + 1]? = some (.cells #[.bool false] 4 (0, 0)) := by rw [hw4]; exact blk_alloc_ BO_3
  have BX_4 : w4.heap[w1.heap.size]? = some (.cells #[.int .i64 128, .int .i32 x1, .int .i64 x2, .int .u64 x3, .int .i64 x4, .int .u64 x5, .int .u64 x6, .int .u64 x7, .int .u64 x8] 62 (0, 0)) := by rw [hw4]; exact blk_alloc_ BX_3
  have BY_4 : w4.heap[w3.heap.size]? = some (.cells #[.int .i64 128, .int .i32 y1, .int .i64 y2, .int .u64 y3, .int .i64 y4, .int .u64 y5, .int .u64 y6, .int .u64 y7, .int .u64 y8] 62 (0, 0)) := by rw [hw4]; exact blk_new_at rfl
  have hb4 : Below w.heap.size w w4 := by rw [hw4]; exact below_alloc hb3 _
  have sz4 : w3.heap.size + 1 ≤ w4.heap.size := by rw [hw4]; simp
  clear hw4 BC_3 BS_3 BO_3 BX_3 hb3
  go_cut [13, 14] from 84 to 87 (fun vp vq wc => ∃ gp gq, vp = .pointer (some ⟨gp, 0, none⟩) ∧ vq = .pointer (some ⟨gq, 0, none⟩) ∧ Aside0 (wc.heap[gp]? = some (.cells #[.int .u64 x3, .int .i64 x4] 57 (0, 0))) ∧ Aside0 (wc.heap[gq]? = some (.cells #[.int .u64 y3, .int .i64 y4] 57 (0, 0))) ∧ Aside0 (wc.heap[w.heap.size]? = some (.cells #[.int .i64 0, .bool false, .bool false, .bool false, .bool false, .bool false] 46 (0, 0))) ∧ Aside0 (wc.heap[w.heap.size + 1]? = some (.cells #[.int .i64 0] 3 (0, 0))) ∧ Aside0 (wc.heap[w.heap.size + 1 + 1]? = some (.cells #[.bool false] 4 (0, 0))) ∧ Aside0 (w.heap.size + 3 ≤ gp) ∧ Aside0 (w.heap.size + 3 ≤ gq) ∧ Aside0 (Below w.heap.size w wc))
  case first =>
    have h_ : w4.cell? ⟨w1.heap.size, 3, none⟩ = some (.int .u64 x3) := (blk_cell BX_4 3).trans rfl
    have dx3 := alloced h_
    clear h_
    have h_ : w4.cell? ⟨w1.heap.size, 4, none⟩ = some (.int .i64 x4) := (blk_cell BX_4 4).trans rfl
    have dx4 := alloced h_
    clear h_
    have h_ : w4.cell? ⟨w3.heap.size, 3, none⟩ = some (.int .u64 y3) := (blk_cell BY_4 3).trans rfl
    have dy3 := alloced h_
    clear h_
    have h_ : w4.cell? ⟨w3.heap.size, 4, none⟩ = some (.int .i64 y4) := (blk_cell BY_4 4).trans rfl
    have dy4 := alloced h_
    clear h_
    have l3 := blk_lt BY_4
    have H4 := Lib.hid (And.intro BC_4 (And.intro BS_4 (And.intro BO_4 hb4)))
    clear BC_4 BS_4 BO_4 BX_4 BY_4 hb4
    go_region
    all_goals go_wp2_with (fail)
    all_goals
      clear dx3 dy3 dx4 dy4
      go_meet
      case rel =>
        obtain ⟨c0_, c1_, c2_, c3_⟩ := H4.out
        have s4 := c3_.size
        exact ⟨_, _, rfl, rfl, ⟨by first | exact blk_drew_ (blk_alloc_ (blk_new_at rfl)) | exact blk_drew_ (blk_new_at (by simp))⟩, ⟨by first | exact blk_drew_ (blk_alloc_ (blk_new_at rfl)) | exact blk_drew_ (blk_new_at (by simp))⟩, ⟨blk_drew_ (blk_alloc_ (blk_alloc_ c0_))⟩, ⟨blk_drew_ (blk_alloc_ (blk_alloc_ c1_))⟩, ⟨blk_drew_ (blk_alloc_ (blk_alloc_ c2_))⟩, ⟨by omega⟩, ⟨by omega⟩, ⟨below_drew (below_alloc (below_alloc c3_ _) _)⟩⟩
  case rest =>
    obtain ⟨gp, gq, rfl, rfl, ⟨BP_0⟩, ⟨BQ_0⟩, ⟨BC_0⟩, ⟨BS_0⟩, ⟨BO_0⟩, ⟨g1⟩, ⟨g2⟩, ⟨hb0⟩⟩ := hcut
    clear BC_4 BS_4 BO_4 BX_4 BY_4 hb4 sz4 sz3 sz1
    go_wp2_with (fail)
    refine wp_region_noPanic ?_
    refine wp_at ?_
    intro u0 hu0
    have B1_a0 : u0.drew.heap[gp]? = some (.cells #[.int .u64 x3, .int .i64 x4] 57 (0, 0)) := by rw [hu0]; exact blk_drew_ BP_0
    have B2_a0 : u0.drew.heap[gq]? = some (.cells #[.int .u64 y3, .int .i64 y4] 57 (0, 0)) := by rw [hu0]; exact blk_drew_ BQ_0
    have BC_a0 : u0.drew.heap[w.heap.size]? = some (.cells #[.int .i64 0, .bool false, .bool false, .bool false, .bool false, .bool false] 46 (0, 0)) := by rw [hu0]; exact blk_drew_ BC_0
    have BS_a0 : u0.drew.heap[w.heap.size + 1]? = some (.cells #[.int .i64 0] 3 (0, 0)) := by rw [hu0]; exact blk_drew_ BS_0
    have BO_a0 : u0.drew.heap[w.heap.size + 1 + 1]? = some (.cells #[.bool false] 4 (0, 0)) := by rw [hu0]; exact blk_drew_ BO_0
    have hba0 : Below w.heap.size w u0.drew := by rw [hu0]; exact below_drew hb0
    clear hu0 BP_0 BQ_0 BC_0 BS_0 BO_0 hb0
    refine start_ (n := 20) (S := fun w' => w'.heap[gp]? = some (.cells #[.int .u64 x3, .int .i64 x4] 57 (0, 0)) ∧ w'.heap[gq]? = some (.cells #[.int .u64 y3, .int .i64 y4] 57 (0, 0))) (ds := []) #[false, false, false, false, false, false, false, false, false, false, false, false, false, false, false, false, false, false, false, false] (by kernel_rfl) rfl rfl ⟨B1_a0, B2_a0⟩ (fun hHeld => ?_)
    generalize u0.drew = u1 at *
    refine take_ (i := 0) (N := some 88) (v := ?_) (a' := ?_) #[true, false, false, false, false, false, false, false, false, false, false, false, false, false, false, false, false, false, false, false] rfl rfl (by kernel_rfl) (fun _ _ _ h => h) (Or.inl ⟨by rfl, ?_⟩) hHeld ?_ ?_
    rotate_left
    · intro w' s0
      have d3 : w'.cell? ⟨gp, 0, none⟩ = some (.int .u64 x3) := (blk_cell s0.1 0).trans rfl
      have d4 : w'.cell? ⟨gp, 1, none⟩ = some (.int .i64 x4) := (blk_cell s0.1 1).trans rfl
      clear s0
      go_simp
      with_reducible rfl
    rotate_left
    · simp only [Act.put, s1_, s2_, s3_, i64_w, i32_w]
      rfl
    refine take_ (i := 3) (N := some 91) (v := ?_) (a' := ?_) #[true, false, false, true, false, false, false, false, false, false, false, false, false, false, false, false, false, false, false, false] rfl rfl (by kernel_rfl) (fun _ _ _ h => h) (Or.inl ⟨by rfl, ?_⟩) hHeld ?_ ?_
    rotate_left
    · intro w' s0
      have d3 : w'.cell? ⟨gp, 0, none⟩ = some (.int .u64 x3) := (blk_cell s0.1 0).trans rfl
      have d4 : w'.cell? ⟨gp, 1, none⟩ = some (.int .i64 x4) := (blk_cell s0.1 1).trans rfl
      clear s0
      go_simp
      with_reducible rfl
    rotate_left
    · simp only [Act.put, s1_, s2_, s3_, i64_w, i32_w]
      rfl
    refine take_ (i := 6) (N := some 94) (v := ?_) (a' := ?_) #[true, false, false, true, false, false, true, false, false, false, false, false, false, false, false, false, false, false, false, false] rfl rfl (by kernel_rfl) (fun _ _ _ h => h) (Or.inl ⟨by rfl, ?_⟩) hHeld ?_ ?_
    rotate_left
    · intro w' s0
      have d3 : w'.cell? ⟨gp, 0, none⟩ = some (.int .u64 x3) := (blk_cell s0.1 0).trans rfl
      have d4 : w'.cell? ⟨gp, 1, none⟩ = some (.int .i64 x4) := (blk_cell s0.1 1).trans rfl
      clear s0
      go_simp
      with_reducible rfl
    rotate_left
    · simp only [Act.put, s1_, s2_, s3_, i64_w, i32_w]
      rfl
    refine take_ (i := 9) (N := some 97) (v := ?_) (a' := ?_) #[true, false, false, true, false, false, true, false, false, true, false, false, false, false, false, false, false, false, false, false] rfl rfl (by kernel_rfl) (fun _ _ _ h => h) (Or.inl ⟨by rfl, ?_⟩) hHeld ?_ ?_
    rotate_left
    · intro w' s0
      have d3 : w'.cell? ⟨gp, 0, none⟩ = some (.int .u64 x3) := (blk_cell s0.1 0).trans rfl
      have d4 : w'.cell? ⟨gp, 1, none⟩ = some (.int .i64 x4) := (blk_cell s0.1 1).trans rfl
      clear s0
      go_simp
      with_reducible rfl
    rotate_left
    · simp only [Act.put, s1_, s2_, s3_, i64_w, i32_w]
      rfl
    refine take_ (i := 12) (N := some 100) (v := ?_) (a' := ?_) #[true, false, false, true, false, false, true, false, false, true, false, false, true, false, false, false, false, false, false, false] rfl rfl (by kernel_rfl) (fun _ _ _ h => h) (Or.inl ⟨by rfl, ?_⟩) hHeld ?_ ?_
    rotate_left
    · intro w' s0
      have d3 : w'.cell? ⟨gp, 0, none⟩ = some (.int .u64 x3) := (blk_cell s0.1 0).trans rfl
      have d4 : w'.cell? ⟨gp, 1, none⟩ = some (.int .i64 x4) := (blk_cell s0.1 1).trans rfl
      clear s0
      go_simp
      with_reducible rfl
    rotate_left
    · simp only [Act.put, s1_, s2_, s3_, i64_w, i32_w]
      rfl
    refine take_ (i := 16) (N := some 104) (v := ?_) (a' := ?_) #[true, false, false, true, false, false, true, false, false, true, false, false, true, false, false, false, true, false, false, false] rfl rfl (by kernel_rfl) (fun _ _ _ h => h) (Or.inl ⟨by rfl, ?_⟩) hHeld ?_ ?_
    rotate_left
    · intro w' s0
      have d3 : w'.cell? ⟨gp, 0, none⟩ = some (.int .u64 x3) := (blk_cell s0.1 0).trans rfl
      have d4 : w'.cell? ⟨gp, 1, none⟩ = some (.int .i64 x4) := (blk_cell s0.1 1).trans rfl
      clear s0
      go_simp
      with_reducible rfl
    rotate_left
    · simp only [Act.put, s1_, s2_, s3_, i64_w, i32_w]
      rfl
    refine take_ (i := 1) (N := some 89) (v := ?_) (a' := ?_) #[true, true, false, true, false, false, true, false, false, true, false, false, true, false, false, false, true, false, false, false] rfl rfl (by kernel_rfl) (fun _ _ _ h => h) (Or.inl ⟨by rfl, ?_⟩) hHeld ?_ ?_
    rotate_left
    · intro w' s0
      have d3 : w'.cell? ⟨gq, 0, none⟩ = some (.int .u64 y3) := (blk_cell s0.2 0).trans rfl
      have d4 : w'.cell? ⟨gq, 1, none⟩ = some (.int .i64 y4) := (blk_cell s0.2 1).trans rfl
      clear s0
      go_simp
      with_reducible rfl
    rotate_left
    · simp only [Act.put, s1_, s2_, s3_, i64_w, i32_w]
      rfl
    refine take_ (i := 4) (N := some 92) (v := ?_) (a' := ?_) #[true, true, false, true, true, false, true, false, false, true, false, false, true, false, false, false, true, false, false, false] rfl rfl (by kernel_rfl) (fun _ _ _ h => h) (Or.inl ⟨by rfl, ?_⟩) hHeld ?_ ?_
    rotate_left
    · intro w' s0
      have d3 : w'.cell? ⟨gq, 0, none⟩ = some (.int .u64 y3) := (blk_cell s0.2 0).trans rfl
      have d4 : w'.cell? ⟨gq, 1, none⟩ = some (.int .i64 y4) := (blk_cell s0.2 1).trans rfl
      clear s0
      go_simp
      with_reducible rfl
    rotate_left
    · simp only [Act.put, s1_, s2_, s3_, i64_w, i32_w]
      rfl
    refine take_ (i := 7) (N := some 95) (v := ?_) (a' := ?_) #[true, true, false, true, true, false, true, true, false, true, false, false, true, false, false, false, true, false, false, false] rfl rfl (by kernel_rfl) (fun _ _ _ h => h) (Or.inl ⟨by rfl, ?_⟩) hHeld ?_ ?_
    rotate_left
    · intro w' s0
      have d3 : w'.cell? ⟨gq, 0, none⟩ = some (.int .u64 y3) := (blk_cell s0.2 0).trans rfl
      have d4 : w'.cell? ⟨gq, 1, none⟩ = some (.int .i64 y4) := (blk_cell s0.2 1).trans rfl
      clear s0
      go_simp
      with_reducible rfl
    rotate_left
    · simp only [Act.put, s1_, s2_, s3_, i64_w, i32_w]
      rfl
    refine take_ (i := 10) (N := some 98) (v := ?_) (a' := ?_) #[true, true, false, true, true, false, true, true, false, true, true, false, true, false, false, false, true, false, false, false] rfl rfl (by kernel_rfl) (fun _ _ _ h => h) (Or.inl ⟨by rfl, ?_⟩) hHeld ?_ ?_
    rotate_left
    · intro w' s0
      have d3 : w'.cell? ⟨gq, 0, none⟩ = some (.int .u64 y3) := (blk_cell s0.2 0).trans rfl
      have d4 : w'.cell? ⟨gq, 1, none⟩ = some (.int .i64 y4) := (blk_cell s0.2 1).trans rfl
      clear s0
      go_simp
      with_reducible rfl
    rotate_left
    · simp only [Act.put, s1_, s2_, s3_, i64_w, i32_w]
      rfl
    refine take_ (i := 13) (N := some 101) (v := ?_) (a' := ?_) #[true, true, false, true, true, false, true, true, false, true, true, false, true, true, false, false, true, false, false, false] rfl rfl (by kernel_rfl) (fun _ _ _ h => h) (Or.inl ⟨by rfl, ?_⟩) hHeld ?_ ?_
    rotate_left
    · intro w' s0
      have d3 : w'.cell? ⟨gq, 0, none⟩ = some (.int .u64 y3) := (blk_cell s0.2 0).trans rfl
      have d4 : w'.cell? ⟨gq, 1, none⟩ = some (.int .i64 y4) := (blk_cell s0.2 1).trans rfl
      clear s0
      go_simp
      with_reducible rfl
    rotate_left
    · simp only [Act.put, s1_, s2_, s3_, i64_w, i32_w]
      rfl
    refine one_ (i := 2) (N := some 90) #[true, true, true, true, true, false, true, true, false, true, true, false, true, true, false, false, true, false, false, false] rfl rfl (by kernel_rfl) (by decide) (fun K hK => ?_)
    refine goes_ Try.func54 (by kernel_rfl) rfl #[d128A x3 x4, d128A y3 y4] (by rfl) rfl rfl (by (try simp only [List.map_toArray, List.map_cons, List.map_nil]); rfl) ?_
    refine (hc u1).mono ?_
    rintro e u2 ⟨rfl, hb_⟩
    refine ⟨_, rfl, ?_⟩
    have B1_a1 := blk_below B1_a0 hb_
    have B2_a1 := blk_below B2_a0 hb_
    have BC_a1 := blk_below BC_a0 hb_
    have BS_a1 := blk_below BS_a0 hb_
    have BO_a1 := blk_below BO_a0 hb_
    have hba1 := hba0.trans (hb_.mono hba0.size)
    clear B1_a0 B2_a0 BC_a0 BS_a0 BO_a0 hba0
    refine hK.out _ _ ⟨B1_a1, B2_a1⟩ (fun hHeld2 => ?_)
    clear hK K hb_ hHeld
    have hHeld := hHeld2
    clear hHeld2
    refine norm_ (a' := ?_) ?_ ?_
    rotate_left
    · show Act.put _ (some 90) _ = _
      simp only [Act.put, s1_, s2_, s3_]
      rfl
    refine one_ (i := 5) (N := some 93) #[true, true, true, true, true, true, true, true, false, true, true, false, true, true, false, false, true, false, false, false] rfl rfl (by kernel_rfl) (by decide) (fun K hK => ?_)
    refine goes_ Try.func55 (by kernel_rfl) rfl #[d128A x3 x4, d128A y3 y4] (by rfl) rfl rfl (by (try simp only [List.map_toArray, List.map_cons, List.map_nil]); rfl) ?_
    refine (h2 u2).mono ?_
    rintro e u3 ⟨rfl, hb_⟩
    refine ⟨_, rfl, ?_⟩
    have B1_a2 := blk_below B1_a1 hb_
    have B2_a2 := blk_below B2_a1 hb_
    have BC_a2 := blk_below BC_a1 hb_
    have BS_a2 := blk_below BS_a1 hb_
    have BO_a2 := blk_below BO_a1 hb_
    have hba2 := hba1.trans (hb_.mono hba1.size)
    clear B1_a1 B2_a1 BC_a1 BS_a1 BO_a1 hba1
    refine hK.out _ _ ⟨B1_a2, B2_a2⟩ (fun hHeld2 => ?_)
    clear hK K hb_ hHeld
    have hHeld := hHeld2
    clear hHeld2
    refine norm_ (a' := ?_) ?_ ?_
    rotate_left
    · show Act.put _ (some 93) _ = _
      simp only [Act.put, s1_, s2_, s3_]
      rfl
    refine one_ (i := 8) (N := some 96) #[true, true, true, true, true, true, true, true, true, true, true, false, true, true, false, false, true, false, false, false] rfl rfl (by kernel_rfl) (by decide) (fun K hK => ?_)
    refine goes_ Try.func56 (by kernel_rfl) rfl #[d128A x3 x4, d128A y3 y4] (by rfl) rfl rfl (by (try simp only [List.map_toArray, List.map_cons, List.map_nil]); rfl) ?_
    refine (h3 u3).mono ?_
    rintro e u4 ⟨rfl, hb_⟩
    refine ⟨_, rfl, ?_⟩
    have B1_a3 := blk_below B1_a2 hb_
    have B2_a3 := blk_below B2_a2 hb_
    have BC_a3 := blk_below BC_a2 hb_
    have BS_a3 := blk_below BS_a2 hb_
    have BO_a3 := blk_below BO_a2 hb_
    have hba3 := hba2.trans (hb_.mono hba2.size)
    clear B1_a2 B2_a2 BC_a2 BS_a2 BO_a2 hba2
    refine hK.out _ _ ⟨B1_a3, B2_a3⟩ (fun hHeld2 => ?_)
    clear hK K hb_ hHeld
    have hHeld := hHeld2
    clear hHeld2
    refine norm_ (a' := ?_) ?_ ?_
    rotate_left
    · show Act.put _ (some 96) _ = _
      simp only [Act.put, s1_, s2_, s3_]
      rfl
    refine one_ (i := 11) (N := some 99) #[true, true, true, true, true, true, true, true, true, true, true, true, true, true, false, false, true, false, false, false] rfl rfl (by kernel_rfl) (by decide) (fun K hK => ?_)
    refine goes_ Try.func57 (by kernel_rfl) rfl #[d128A x3 x4, d128A y3 y4] (by rfl) rfl rfl (by (try simp only [List.map_toArray, List.map_cons, List.map_nil]); rfl) ?_
    refine (h4 u4).mono ?_
    rintro e u5 ⟨rfl, hb_⟩
    refine ⟨_, rfl, ?_⟩
    have B1_a4 := blk_below B1_a3 hb_
    have B2_a4 := blk_below B2_a3 hb_
    have BC_a4 := blk_below BC_a3 hb_
    have BS_a4 := blk_below BS_a3 hb_
    have BO_a4 := blk_below BO_a3 hb_
    have hba4 := hba3.trans (hb_.mono hba3.size)
    clear B1_a3 B2_a3 BC_a3 BS_a3 BO_a3 hba3
    refine hK.out _ _ ⟨B1_a4, B2_a4⟩ (fun hHeld2 => ?_)
    clear hK K hb_ hHeld
    have hHeld := hHeld2
    clear hHeld2
    refine norm_ (a' := ?_) ?_ ?_
    rotate_left
    · show Act.put _ (some 99) _ = _
      simp only [Act.put, s1_, s2_, s3_]
      rfl
    refine one_ (i := 14) (N := some 102) #[true, true, true, true, true, true, true, true, true, true, true, true, true, true, true, false, true, false, false, false] rfl rfl (by kernel_rfl) (by decide) (fun K hK => ?_)
    refine goes_ Try.func58 (by kernel_rfl) rfl #[d128A x3 x4, d128A y3 y4] (by rfl) rfl rfl (by (try simp only [List.map_toArray, List.map_cons, List.map_nil]); rfl) ?_
    refine (h5 u5).mono ?_
    rintro e u6 ⟨rfl, hb_⟩
    refine ⟨_, rfl, ?_⟩
    have B1_a5 := blk_below B1_a4 hb_
    have B2_a5 := blk_below B2_a4 hb_
    have BC_a5 := blk_below BC_a4 hb_
    have BS_a5 := blk_below BS_a4 hb_
    have BO_a5 := blk_below BO_a4 hb_
    have hba5 := hba4.trans (hb_.mono hba4.size)
    clear B1_a4 B2_a4 BC_a4 BS_a4 BO_a4 hba4
    refine hK.out _ _ ⟨B1_a5, B2_a5⟩ (fun hHeld2 => ?_)
    clear hK K hb_ hHeld
    have hHeld := hHeld2
    clear hHeld2
    refine norm_ (a' := ?_) ?_ ?_
    rotate_left
    · show Act.put _ (some 102) _ = _
      simp only [Act.put, s1_, s2_, s3_]
      rfl
    refine pure_ (i := 15) (N := some 103) (v := ?_) (a' := ?_) #[true, true, true, true, true, true, true, true, true, true, true, true, true, true, true, true, true, false, false, false] rfl rfl (by kernel_rfl) (fun _ _ _ h => h) (Or.inl ⟨by rfl, ?_⟩) ?_ ?_
    rotate_left
    · intro w'
      go_simp
      with_reducible rfl
    rotate_left
    · simp only [Act.put, s1_, s2_, s3_, i64_w, i32_w]
      rfl
    refine one_ (i := 17) (N := some 105) #[true, true, true, true, true, true, true, true, true, true, true, true, true, true, true, true, true, true, false, false] rfl rfl (by kernel_rfl) (by decide) (fun K hK => ?_)
    refine goes_ Try.func59 (by kernel_rfl) rfl #[d128A x3 x4] (by rfl) rfl rfl (by (try simp only [List.map_toArray, List.map_cons, List.map_nil]); rfl) ?_
    refine (hs u6).mono ?_
    rintro e u7 ⟨rfl, hb_⟩
    refine ⟨_, rfl, ?_⟩
    have B1_a6 := blk_below B1_a5 hb_
    have B2_a6 := blk_below B2_a5 hb_
    have BC_a6 := blk_below BC_a5 hb_
    have BS_a6 := blk_below BS_a5 hb_
    have BO_a6 := blk_below BO_a5 hb_
    have hba6 := hba5.trans (hb_.mono hba5.size)
    clear B1_a5 B2_a5 BC_a5 BS_a5 BO_a5 hba5
    refine hK.out _ _ ⟨B1_a6, B2_a6⟩ (fun hHeld2 => ?_)
    clear hK K hb_ hHeld
    have hHeld := hHeld2
    clear hHeld2
    refine norm_ (a' := ?_) ?_ ?_
    rotate_left
    · show Act.put _ (some 105) _ = _
      simp only [Act.put, s1_, s2_, s3_]
      rfl
    obtain ⟨uF, huF⟩ : ∃ uF, uF = ((((((u7.setCell ⟨w.heap.size, 0, none⟩ (.int .i64 c)).setCell ⟨w.heap.size, 1, none⟩ (.bool false)).setCell ⟨w.heap.size, 2, none⟩ (.bool b2)).setCell ⟨w.heap.size, 3, none⟩ (.bool b3)).setCell ⟨w.heap.size, 4, none⟩ (.bool b4)).setCell ⟨w.heap.size, 5, none⟩ (.bool b5)) := ⟨_, rfl⟩
    have l3 := blk_lt B2_a6
    have l4 := blk_lt B1_a6
    have B1_b : uF.heap[gp]? = some (.cells #[.int .u64 x3, .int .i64 x4] 57 (0, 0)) := by rw [huF]; exact far6 (by omega) B1_a6 (.int .i64 c) (.bool false) (.bool b2) (.bool b3) (.bool b4) (.bool b5)
    have B2_b : uF.heap[gq]? = some (.cells #[.int .u64 y3, .int .i64 y4] 57 (0, 0)) := by rw [huF]; exact far6 (by omega) B2_a6 (.int .i64 c) (.bool false) (.bool b2) (.bool b3) (.bool b4) (.bool b5)
    have BS_b : uF.heap[w.heap.size + 1]? = some (.cells #[.int .i64 0] 3 (0, 0)) := by rw [huF]; exact far6 (by omega) BS_a6 (.int .i64 c) (.bool false) (.bool b2) (.bool b3) (.bool b4) (.bool b5)
    have BO_b : uF.heap[w.heap.size + 1 + 1]? = some (.cells #[.bool false] 4 (0, 0)) := by rw [huF]; exact far6 (by omega) BO_a6 (.int .i64 c) (.bool false) (.bool b2) (.bool b3) (.bool b4) (.bool b5)
    have BC_b : uF.heap[w.heap.size]? = some (.cells #[.int .i64 c, .bool false, .bool b2, .bool b3, .bool b4, .bool b5] 46 (0, 0)) := by rw [huF]; exact put6 BC_a6 (.int .i64 c) (.bool false) (.bool b2) (.bool b3) (.bool b4) (.bool b5)
    have hbb : Below w.heap.size w uF := by rw [huF]; exact bel6 hba6 (Nat.le_refl _) (.int .i64 c) (.bool false) (.bool b2) (.bool b3) (.bool b4) (.bool b5)
    have z0_ : u7.cell? ⟨w.heap.size, 0, none⟩ = some (.int .i64 0) := (blk_cell BC_a6 0).trans rfl
    have y0_ := blk_frozen BC_a6 0
    have z1_ : u7.cell? ⟨w.heap.size, 1, none⟩ = some (.bool false) := (blk_cell BC_a6 1).trans rfl
    have y1_ := blk_frozen BC_a6 1
    have z2_ : u7.cell? ⟨w.heap.size, 2, none⟩ = some (.bool false) := (blk_cell BC_a6 2).trans rfl
    have y2_ := blk_frozen BC_a6 2
    have z3_ : u7.cell? ⟨w.heap.size, 3, none⟩ = some (.bool false) := (blk_cell BC_a6 3).trans rfl
    have y3_ := blk_frozen BC_a6 3
    have z4_ : u7.cell? ⟨w.heap.size, 4, none⟩ = some (.bool false) := (blk_cell BC_a6 4).trans rfl
    have y4_ := blk_frozen BC_a6 4
    have z5_ : u7.cell? ⟨w.heap.size, 5, none⟩ = some (.bool false) := (blk_cell BC_a6 5).trans rfl
    have y5_ := blk_frozen BC_a6 5
    refine one_ (i := 18) (N := none) #[true, true, true, true, true, true, true, true, true, true, true, true, true, true, true, true, true, true, true, false] rfl rfl (by kernel_rfl) (by decide) (fun K hK => ?_)
    refine skip_ (w1 := uF) (by rfl) rfl ?_ ?_
    · clear B1_b B2_b BC_b BS_b BO_b hbb B1_a6 B2_a6 BC_a6 BS_a6 BO_a6 hba6 hHeld
      have HF := Lib.hid huF
      clear huF
      go_simp
      rw [HF.out]
    refine hK.out _ _ ⟨B1_b, B2_b⟩ (fun hHeld2 => ?_)
    clear hK K hHeld huF hHeld2 B1_a6 B2_a6 BC_a6 BS_a6 BO_a6 hba6 z0_ y0_ z1_ y1_ z2_ y2_ z3_ y3_ z4_ y4_ z5_ y5_
    obtain ⟨uG, huG⟩ : ∃ uG, uG = uF.setCell ⟨w.heap.size + 1, 0, none⟩ (.int .i64 s) := ⟨_, rfl⟩
    have B1_c : uG.heap[gp]? = some (.cells #[.int .u64 x3, .int .i64 x4] 57 (0, 0)) := by rw [huG]; exact blk_other_ (by omega) B1_b
    have B2_c : uG.heap[gq]? = some (.cells #[.int .u64 y3, .int .i64 y4] 57 (0, 0)) := by rw [huG]; exact blk_other_ (by omega) B2_b
    have BC_c : uG.heap[w.heap.size]? = some (.cells #[.int .i64 c, .bool false, .bool b2, .bool b3, .bool b4, .bool b5] 46 (0, 0)) := by rw [huG]; exact blk_other_ (by omega) BC_b
    have BO_c : uG.heap[w.heap.size + 1 + 1]? = some (.cells #[.bool false] 4 (0, 0)) := by rw [huG]; exact blk_other_ (by omega) BO_b
    have BS_c : uG.heap[w.heap.size + 1]? = some (.cells #[.int .i64 s] 3 (0, 0)) := by rw [huG]; exact blk_put_at BS_b rfl
    have hbc : Below w.heap.size w uG := by rw [huG]; exact below_set hbb (by omega)
    have z_ : uF.cell? ⟨w.heap.size + 1, 0, none⟩ = some (.int .i64 0) := (blk_cell BS_b 0).trans rfl
    have y_ := blk_frozen BS_b 0
    refine one_ (i := 19) (N := none) #[true, true, true, true, true, true, true, true, true, true, true, true, true, true, true, true, true, true, true, true] rfl rfl (by kernel_rfl) (by decide) (fun K hK => ?_)
    refine skip_ (w1 := uG) (by rfl) rfl ?_ ?_
    · clear B1_b B2_b BC_b BS_b BO_b hbb B1_c B2_c BC_c BS_c BO_c hbc
      have HF := Lib.hid huG
      clear huG
      go_simp
      rw [HF.out]
    refine hK.out _ _ ⟨B1_c, B2_c⟩ (fun hHeld2 => ?_)
    clear hK K huG hHeld2 B1_b B2_b BC_b BS_b BO_b hbb z_ y_
    refine done_ (by kernel_rfl) ?_
    refine NoPanic.normal ?_
    have z0_ : uG.cell? ⟨w.heap.size, 0, none⟩ = some (.int .i64 c) := (blk_cell BC_c 0).trans rfl
    have y0_ := blk_frozen BC_c 0
    have z1_ : uG.cell? ⟨w.heap.size, 1, none⟩ = some (.bool false) := (blk_cell BC_c 1).trans rfl
    have y1_ := blk_frozen BC_c 1
    have z2_ : uG.cell? ⟨w.heap.size, 2, none⟩ = some (.bool b2) := (blk_cell BC_c 2).trans rfl
    have y2_ := blk_frozen BC_c 2
    have z3_ : uG.cell? ⟨w.heap.size, 3, none⟩ = some (.bool b3) := (blk_cell BC_c 3).trans rfl
    have y3_ := blk_frozen BC_c 3
    have z4_ : uG.cell? ⟨w.heap.size, 4, none⟩ = some (.bool b4) := (blk_cell BC_c 4).trans rfl
    have y4_ := blk_frozen BC_c 4
    have z5_ : uG.cell? ⟨w.heap.size, 5, none⟩ = some (.bool b5) := (blk_cell BC_c 5).trans rfl
    have y5_ := blk_frozen BC_c 5
    have zs_ : uG.cell? ⟨w.heap.size + 1, 0, none⟩ = some (.int .i64 s) := (blk_cell BS_c 0).trans rfl
    have ys_ := blk_frozen BS_c 0
    have zo_ : uG.cell? ⟨w.heap.size + 1 + 1, 0, none⟩ = some (.bool false) := (blk_cell BO_c 0).trans rfl
    have yo_ := blk_frozen BO_c 0
    have HC := Lib.hid (And.intro BC_c (And.intro BS_c (And.intro BO_c hbc)))
    clear BC_c BS_c BO_c hbc B1_c B2_c hc hs h2 h3 h4 h5
    go_wp2_with (fail)
    clear z0_ y0_ z1_ y1_ z2_ y2_ z3_ y3_ z4_ y4_ z5_ y5_ zs_ ys_ zo_ yo_
    refine wp_region_noPanic ?_
    refine wp_at ?_
    intro v0 hv0
    obtain ⟨BC_c, BS_c, BO_c, hbc⟩ := HC.out
    clear HC
    have BC_d : v0.drew.heap[w.heap.size]? = some (.cells #[.int .i64 c, .bool (c == 0), .bool b2, .bool b3, .bool b4, .bool b5] 46 (0, 0)) := by rw [hv0]; exact blk_drew_ (blk_put_at BC_c rfl)
    have BS_d : v0.drew.heap[w.heap.size + 1]? = some (.cells #[.int .i64 s] 3 (0, 0)) := by rw [hv0]; exact blk_drew_ (blk_other_ (by omega) BS_c)
    have BO_d : v0.drew.heap[w.heap.size + 1 + 1]? = some (.cells #[.bool false] 4 (0, 0)) := by rw [hv0]; exact blk_drew_ (blk_other_ (by omega) BO_c)
    have hbd : Below w.heap.size w v0.drew := by rw [hv0]; exact below_drew (below_set hbc (Nat.le_refl _))
    clear hv0 BC_c BS_c BO_c hbc
    refine start_ (n := 5) (S := fun w' => w'.heap[w.heap.size]? = some (.cells #[.int .i64 c, .bool (c == 0), .bool b2, .bool b3, .bool b4, .bool b5] 46 (0, 0)) ∧ w'.heap[w.heap.size + 1]? = some (.cells #[.int .i64 s] 3 (0, 0))) (ds := []) #[false, false, false, false, false] (by kernel_rfl) rfl rfl ⟨BC_d, BS_d⟩ (fun hHeld => ?_)
    generalize v0.drew = v1 at *
    refine take_ (i := 0) (N := some 110) (v := ?_) (a' := ?_) #[true, false, false, false, false] rfl rfl (by kernel_rfl) (fun _ _ _ h => h) (Or.inl ⟨by rfl, ?_⟩) hHeld ?_ ?_
    rotate_left
    · intro w' s0
      have d0 : w'.cell? ⟨w.heap.size, 0, none⟩ = some (.int .i64 c) := (blk_cell s0.1 0).trans rfl
      have d1 : w'.cell? ⟨w.heap.size, 1, none⟩ = some (.bool (c == 0)) := (blk_cell s0.1 1).trans rfl
      have d2 : w'.cell? ⟨w.heap.size, 2, none⟩ = some (.bool b2) := (blk_cell s0.1 2).trans rfl
      have d3 : w'.cell? ⟨w.heap.size, 3, none⟩ = some (.bool b3) := (blk_cell s0.1 3).trans rfl
      have d4 : w'.cell? ⟨w.heap.size, 4, none⟩ = some (.bool b4) := (blk_cell s0.1 4).trans rfl
      have d5 : w'.cell? ⟨w.heap.size, 5, none⟩ = some (.bool b5) := (blk_cell s0.1 5).trans rfl
      clear s0
      go_simp
      with_reducible rfl
    rotate_left
    · simp only [Act.put, s1_, s2_, s3_, i64_w, i32_w]
      rfl
    refine take_ (i := 1) (N := some 111) (v := ?_) (a' := ?_) #[true, true, false, false, false] rfl rfl (by kernel_rfl) (fun _ _ _ h => h) (Or.inl ⟨by rfl, ?_⟩) hHeld ?_ ?_
    rotate_left
    · intro w' s0
      have d0 : w'.cell? ⟨w.heap.size + 1, 0, none⟩ = some (.int .i64 s) := (blk_cell s0.2 0).trans rfl
      clear s0
      go_simp
      with_reducible rfl
    rotate_left
    · simp only [Act.put, s1_, s2_, s3_, i64_w, i32_w]
      rfl
    obtain ⟨vA, hvA⟩ : ∃ vA, vA = ((((((v1.setCell ⟨w.heap.size, 0, none⟩ (.int .i64 c)).setCell ⟨w.heap.size, 1, none⟩ (.bool (c == 0))).setCell ⟨w.heap.size, 2, none⟩ (.bool b2)).setCell ⟨w.heap.size, 3, none⟩ (.bool b3)).setCell ⟨w.heap.size, 4, none⟩ (.bool b4)).setCell ⟨w.heap.size, 5, none⟩ (.bool b5)) := ⟨_, rfl⟩
    have BC_e : vA.heap[w.heap.size]? = some (.cells #[.int .i64 c, .bool (c == 0), .bool b2, .bool b3, .bool b4, .bool b5] 46 (0, 0)) := by rw [hvA]; exact put6 BC_d (.int .i64 c) (.bool (c == 0)) (.bool b2) (.bool b3) (.bool b4) (.bool b5)
    have BS_e : vA.heap[w.heap.size + 1]? = some (.cells #[.int .i64 s] 3 (0, 0)) := by rw [hvA]; exact far6 (by omega) BS_d (.int .i64 c) (.bool (c == 0)) (.bool b2) (.bool b3) (.bool b4) (.bool b5)
    have BO_e : vA.heap[w.heap.size + 1 + 1]? = some (.cells #[.bool false] 4 (0, 0)) := by rw [hvA]; exact far6 (by omega) BO_d (.int .i64 c) (.bool (c == 0)) (.bool b2) (.bool b3) (.bool b4) (.bool b5)
    have hbe : Below w.heap.size w vA := by rw [hvA]; exact bel6 hbd (Nat.le_refl _) (.int .i64 c) (.bool (c == 0)) (.bool b2) (.bool b3) (.bool b4) (.bool b5)
    have z0_ : v1.cell? ⟨w.heap.size, 0, none⟩ = some (.int .i64 c) := (blk_cell BC_d 0).trans rfl
    have y0_ := blk_frozen BC_d 0
    have z1_ : v1.cell? ⟨w.heap.size, 1, none⟩ = some (.bool (c == 0)) := (blk_cell BC_d 1).trans rfl
    have y1_ := blk_frozen BC_d 1
    have z2_ : v1.cell? ⟨w.heap.size, 2, none⟩ = some (.bool b2) := (blk_cell BC_d 2).trans rfl
    have y2_ := blk_frozen BC_d 2
    have z3_ : v1.cell? ⟨w.heap.size, 3, none⟩ = some (.bool b3) := (blk_cell BC_d 3).trans rfl
    have y3_ := blk_frozen BC_d 3
    have z4_ : v1.cell? ⟨w.heap.size, 4, none⟩ = some (.bool b4) := (blk_cell BC_d 4).trans rfl
    have y4_ := blk_frozen BC_d 4
    have z5_ : v1.cell? ⟨w.heap.size, 5, none⟩ = some (.bool b5) := (blk_cell BC_d 5).trans rfl
    have y5_ := blk_frozen BC_d 5
    refine one_ (i := 2) (N := none) #[true, true, true, false, false] rfl rfl (by kernel_rfl) (by decide) (fun K hK => ?_)
    refine skip_ (w1 := vA) (by rfl) rfl ?_ ?_
    · clear BC_e BS_e BO_e hbe BC_d BS_d BO_d hbd hHeld
      have HF := Lib.hid hvA
      clear hvA
      go_simp
      rw [HF.out]
    refine hK.out _ _ ⟨BC_e, BS_e⟩ (fun hHeld2 => ?_)
    clear hK K hHeld hvA hHeld2 BC_d BS_d BO_d hbd z0_ y0_ z1_ y1_ z2_ y2_ z3_ y3_ z4_ y4_ z5_ y5_
    obtain ⟨vB, hvB⟩ : ∃ vB, vB = vA.setCell ⟨w.heap.size + 1, 0, none⟩ (.int .i64 s) := ⟨_, rfl⟩
    have BC_f : vB.heap[w.heap.size]? = some (.cells #[.int .i64 c, .bool (c == 0), .bool b2, .bool b3, .bool b4, .bool b5] 46 (0, 0)) := by rw [hvB]; exact blk_other_ (by omega) BC_e
    have BS_f : vB.heap[w.heap.size + 1]? = some (.cells #[.int .i64 s] 3 (0, 0)) := by rw [hvB]; exact blk_put_at BS_e rfl
    have BO_f : vB.heap[w.heap.size + 1 + 1]? = some (.cells #[.bool false] 4 (0, 0)) := by rw [hvB]; exact blk_other_ (by omega) BO_e
    have hbf : Below w.heap.size w vB := by rw [hvB]; exact below_set hbe (by omega)
    have z_ : vA.cell? ⟨w.heap.size + 1, 0, none⟩ = some (.int .i64 s) := (blk_cell BS_e 0).trans rfl
    have y_ := blk_frozen BS_e 0
    refine one_ (i := 3) (N := none) #[true, true, true, true, false] rfl rfl (by kernel_rfl) (by decide) (fun K hK => ?_)
    refine skip_ (w1 := vB) (by rfl) rfl ?_ ?_
    · clear BC_e BS_e BO_e hbe BC_f BS_f BO_f hbf
      have HF := Lib.hid hvB
      clear hvB
      go_simp
      rw [HF.out]
    refine hK.out _ _ ⟨BC_f, BS_f⟩ (fun hHeld2 => ?_)
    clear hK K hvB hHeld2 BC_e BS_e BO_e hbe z_ y_
    obtain ⟨vC, hvC⟩ : ∃ vC, vC = vB.setCell ⟨w.heap.size + 1 + 1, 0, none⟩ (.bool true) := ⟨_, rfl⟩
    have BC_g : vC.heap[w.heap.size]? = some (.cells #[.int .i64 c, .bool (c == 0), .bool b2, .bool b3, .bool b4, .bool b5] 46 (0, 0)) := by rw [hvC]; exact blk_other_ (by omega) BC_f
    have BS_g : vC.heap[w.heap.size + 1]? = some (.cells #[.int .i64 s] 3 (0, 0)) := by rw [hvC]; exact blk_other_ (by omega) BS_f
    have BO_g : vC.heap[w.heap.size + 1 + 1]? = some (.cells #[.bool true] 4 (0, 0)) := by rw [hvC]; exact blk_put_at BO_f rfl
    have hbg : Below w.heap.size w vC := by rw [hvC]; exact below_set hbf (by omega)
    have z_ : vB.cell? ⟨w.heap.size + 1 + 1, 0, none⟩ = some (.bool false) := (blk_cell BO_f 0).trans rfl
    have y_ := blk_frozen BO_f 0
    refine one_ (i := 4) (N := none) #[true, true, true, true, true] rfl rfl (by kernel_rfl) (by decide) (fun K hK => ?_)
    refine skip_ (w1 := vC) (by rfl) rfl ?_ ?_
    · clear BC_g BS_g BO_g hbg BC_f BS_f BO_f hbf
      have HF := Lib.hid hvC
      clear hvC
      go_simp
      rw [HF.out]
    refine hK.out _ _ ⟨BC_g, BS_g⟩ (fun hHeld2 => ?_)
    clear hK K hvC hHeld2 BC_f BS_f BO_f hbf z_ y_
    refine done_ (by kernel_rfl) ?_
    refine NoPanic.normal ?_
    go_wp2_with (fail)
    refine leaves_cons (f := 49) (args := #[.pointer (some ⟨w.heap.size, 0, none⟩), .pointer (some ⟨w.heap.size + 1, 0, none⟩), .pointer (some ⟨w.heap.size + 1 + 1, 0, none⟩)]) (by simp) (by simp [go_sem]) ?_
    refine (catch_cmp _ _ _ _).mono ?_
    rintro e u' w'' ⟨rfl, rfl, rfl⟩
    have c0 := (blk_cell BC_g 0).trans (show _ = some (Value.int .i64 c) from rfl)
    have c1 := (blk_cell BC_g 1).trans (show _ = some (Value.bool (c == 0)) from rfl)
    have c2 := (blk_cell BC_g 2).trans (show _ = some (Value.bool b2) from rfl)
    have c3 := (blk_cell BC_g 3).trans (show _ = some (Value.bool b3) from rfl)
    have c4 := (blk_cell BC_g 4).trans (show _ = some (Value.bool b4) from rfl)
    have c5 := (blk_cell BC_g 5).trans (show _ = some (Value.bool b5) from rfl)
    have cs := (blk_cell BS_g 0).trans (show _ = some (Value.int .i64 s) from rfl)
    have co := (blk_cell BO_g 0).trans (show _ = some (Value.bool true) from rfl)
    simp [Leaves, settle, results, Try.results19, go_sem, c0, c1, c2, c3, c4, c5, cs, co]
    exact hbg
set_option maxHeartbeats 4000000 in
set_option maxRecDepth 100000 in
theorem cmp256 (S1 S2 : Value) (x1 x2 x3 x4 x5 x6 x7 x8 y1 y2 y3 y4 y5 y6 y7 y8 c s : Int) (b2 b3 b4 b5 : Bool) (w : World) (hx : IsOf w 256 S1 x1 x2 x3 x4 x5 x6 x7 x8) (hy : IsOf w 256 S2 y1 y2 y3 y4 y5 y6 y7 y8)
    (hc : ∀ W, Calls Try.prog 60 #[d256A x5 x6 x7 x8, d256A y5 y6 y7 y8] W fun e W' => e = .returned (.int .i64 c) ∧ Below W.heap.size W W')
    (h2 : ∀ W, Calls Try.prog 61 #[d256A x5 x6 x7 x8, d256A y5 y6 y7 y8] W fun e W' => e = .returned (.bool b2) ∧ Below W.heap.size W W')
    (h3 : ∀ W, Calls Try.prog 62 #[d256A x5 x6 x7 x8, d256A y5 y6 y7 y8] W fun e W' => e = .returned (.bool b3) ∧ Below W.heap.size W W')
    (h4 : ∀ W, Calls Try.prog 63 #[d256A x5 x6 x7 x8, d256A y5 y6 y7 y8] W fun e W' => e = .returned (.bool b4) ∧ Below W.heap.size W W')
    (h5 : ∀ W, Calls Try.prog 64 #[d256A x5 x6 x7 x8, d256A y5 y6 y7 y8] W fun e W' => e = .returned (.bool b5) ∧ Below W.heap.size W W')
    (hs : ∀ W, Calls Try.prog 65 #[d256A x5 x6 x7 x8] W fun e W' => e = .returned (.int .i64 s) ∧ Below W.heap.size W W') :
    Calls Try.prog 19 #[.int .i64 256, S1, S2] w fun e w' => e = .returned (.tuple #[.agg #[.int .i64 c, .bool (c == 0), .bool b2, .bool b3, .bool b4, .bool b5], .int .i64 s, .bool true]) ∧ Below w.heap.size w w' := by
  have hmf : ∀ (fn : Fn) (first cap : Array Value) (w : World), (Instr.makeFunc fn first cap).run Try.prog w = .ok (.func fn first cap) w := fun _ _ _ _ => rfl
  go_enter_defers Try.func19, Try.ntmps19
  go_wp2_with (go_at_call 23; fail)
  clear hmf
  refine calls_at ?_
  intro w0 hw0
  have BC_0 : w0.heap[w.heap.size]? = some (.cells #[.int .i64 0, .bool false, .bool false, .bool false, .bool false, .bool false] 46 (0, 0)) := by rw [hw0]; exact blk_alloc_ (blk_alloc_ (blk_new_at rfl))
  have BS_0 : w0.heap[w.heap.size + 1]? = some (.cells #[.int .i64 0] 3 (0, 0)) := by rw [hw0]; exact blk_alloc_ (blk_new_at (by simp))
  have BO_0 : w0.heap[w.heap.size + 1 + 1]? = some (.cells #[.bool false] 4 (0, 0)) := by rw [hw0]; exact blk_new_at (by simp)
  have hb0 : Below w.heap.size w w0 := by rw [hw0]; exact below_alloc (below_alloc (below_alloc (Below.refl _ _) _) _) _
  have sz0 : w.heap.size + 3 ≤ w0.heap.size := by rw [hw0]; simp
  clear hw0
  refine (hx w0 hb0).mono ?_
  rintro e w1 ⟨rfl, hb_⟩
  have BC_1 := blk_below BC_0 hb_
  have BS_1 := blk_below BS_0 hb_
  have BO_1 := blk_below BO_0 hb_
  have hb1 := hb0.trans (hb_.mono hb0.size)
  have sz1 : w.heap.size + 3 ≤ w1.heap.size := Nat.le_trans sz0 hb_.size
  clear BC_0 BS_0 BO_0 hb_ hb0 sz0 hx
  go_wp2_with (go_at_call 23; fail)
  refine calls_at ?_
  intro w2 hw2
  have BC_2 : w2.heap[w.heap.size]? = some (.cells #[.int .i64 0, .bool false, .bool false, .bool false, .bool false, .bool false] 46 (0, 0)) := by rw [hw2]; exact blk_alloc_ BC_1
  have BS_2 : w2.heap[w.heap.size + 1]? = some (.cells #[.int .i64 0] 3 (0, 0)) := by rw [hw2]; exact blk_alloc_ BS_1
  have BO_2 : w2.heap[w.heap.size + 1 + 1]? = some (.cells #[.bool false] 4 (0, 0)) := by rw [hw2]; exact blk_alloc_ BO_1
  have BX_2 : w2.heap[w1.heap.size]? = some (.cells #[.int .i64 256, .int .i32 x1, .int .i64 x2, .int .u64 x3, .int .i64 x4, .int .u64 x5, .int .u64 x6, .int .u64 x7, .int .u64 x8] 62 (0, 0)) := by rw [hw2]; exact blk_new_at rfl
  have hb2 : Below w.heap.size w w2 := by rw [hw2]; exact below_alloc hb1 _
  have sz2 : w1.heap.size + 1 ≤ w2.heap.size := by rw [hw2]; simp
  clear hw2 BC_1 BS_1 BO_1 hb1
  refine (hy w2 hb2).mono ?_
  rintro e w3 ⟨rfl, hb_⟩
  have BC_3 := blk_below BC_2 hb_
  have BS_3 := blk_below BS_2 hb_
  have BO_3 := blk_below BO_2 hb_
  have BX_3 := blk_below BX_2 hb_
  have hb3 := hb2.trans (hb_.mono hb2.size)
  have sz3 : w1.heap.size + 1 ≤ w3.heap.size := Nat.le_trans sz2 hb_.size
  clear BC_2 BS_2 BO_2 BX_2 hb_ hb2 sz2 hy
  go_upto_region 7 with (fail)
  refine wp_at ?_
  intro w4 hw4
  have BC_4 : w4.heap[w.heap.size]? = some (.cells #[.int .i64 0, .bool false, .bool false, .bool false, .bool false, .bool false] 46 (0, 0)) := by rw [hw4]; exact blk_alloc_ BC_3
  have BS_4 : w4.heap[w.heap.size + 1]? = some (.cells #[.int .i64 0] 3 (0, 0)) := by rw [hw4]; exact blk_alloc_ BS_3
  have BO_4 : w4.heap[w.heap.size + 1 + 1]? = some (.cells #[.bool false] 4 (0, 0)) := by rw [hw4]; exact blk_alloc_ BO_3
  have BX_4 : w4.heap[w1.heap.size]? = some (.cells #[.int .i64 256, .int .i32 x1, .int .i64 x2, .int .u64 x3, .int .i64 x4, .int .u64 x5, .int .u64 x6, .int .u64 x7, .int .u64 x8] 62 (0, 0)) := by rw [hw4]; exact blk_alloc_ BX_3
  have BY_4 : w4.heap[w3.heap.size]? = some (.cells #[.int .i64 256, .int .i32 y1, .int .i64 y2, .int .u64 y3, .int .i64 y4, .int .u64 y5, .int .u64 y6, .int .u64 y7, .int .u64 y8] 62 (0, 0)) := by rw [hw4]; exact blk_new_at rfl
  have hb4 : Below w.heap.size w w4 := by rw [hw4]; exact below_alloc hb3 _
  have sz4 : w3.heap.size + 1 ≤ w4.heap.size := by rw [hw4]; simp
  clear hw4 BC_3 BS_3 BO_3 BX_3 hb3
  go_cut [15, 16] from 38 to 41 (fun vp vq wc => ∃ gp gq, vp = .pointer (some ⟨gp, 0, none⟩) ∧ vq = .pointer (some ⟨gq, 0, none⟩) ∧ Aside0 (wc.heap[gp]? = some (.cells #[.int .u64 x5, .int .u64 x6, .int .u64 x7, .int .u64 x8] 60 (0, 0))) ∧ Aside0 (wc.heap[gq]? = some (.cells #[.int .u64 y5, .int .u64 y6, .int .u64 y7, .int .u64 y8] 60 (0, 0))) ∧ Aside0 (wc.heap[w.heap.size]? = some (.cells #[.int .i64 0, .bool false, .bool false, .bool false, .bool false, .bool false] 46 (0, 0))) ∧ Aside0 (wc.heap[w.heap.size + 1]? = some (.cells #[.int .i64 0] 3 (0, 0))) ∧ Aside0 (wc.heap[w.heap.size + 1 + 1]? = some (.cells #[.bool false] 4 (0, 0))) ∧ Aside0 (w.heap.size + 3 ≤ gp) ∧ Aside0 (w.heap.size + 3 ≤ gq) ∧ Aside0 (Below w.heap.size w wc))
  case first =>
    have h_ : w4.cell? ⟨w1.heap.size, 5, none⟩ = some (.int .u64 x5) := (blk_cell BX_4 5).trans rfl
    have dx5 := alloced h_
    clear h_
    have h_ : w4.cell? ⟨w1.heap.size, 6, none⟩ = some (.int .u64 x6) := (blk_cell BX_4 6).trans rfl
    have dx6 := alloced h_
    clear h_
    have h_ : w4.cell? ⟨w1.heap.size, 7, none⟩ = some (.int .u64 x7) := (blk_cell BX_4 7).trans rfl
    have dx7 := alloced h_
    clear h_
    have h_ : w4.cell? ⟨w1.heap.size, 8, none⟩ = some (.int .u64 x8) := (blk_cell BX_4 8).trans rfl
    have dx8 := alloced h_
    clear h_
    have h_ : w4.cell? ⟨w3.heap.size, 5, none⟩ = some (.int .u64 y5) := (blk_cell BY_4 5).trans rfl
    have dy5 := alloced h_
    clear h_
    have h_ : w4.cell? ⟨w3.heap.size, 6, none⟩ = some (.int .u64 y6) := (blk_cell BY_4 6).trans rfl
    have dy6 := alloced h_
    clear h_
    have h_ : w4.cell? ⟨w3.heap.size, 7, none⟩ = some (.int .u64 y7) := (blk_cell BY_4 7).trans rfl
    have dy7 := alloced h_
    clear h_
    have h_ : w4.cell? ⟨w3.heap.size, 8, none⟩ = some (.int .u64 y8) := (blk_cell BY_4 8).trans rfl
    have dy8 := alloced h_
    clear h_
    have l3 := blk_lt BY_4
    have H4 := Lib.hid (And.intro BC_4 (And.intro BS_4 (And.intro BO_4 hb4)))
    clear BC_4 BS_4 BO_4 BX_4 BY_4 hb4
    go_region
    all_goals go_wp2_with (fail)
    all_goals
      clear dx5 dy5 dx6 dy6 dx7 dy7 dx8 dy8
      go_meet
      case rel =>
        obtain ⟨c0_, c1_, c2_, c3_⟩ := H4.out
        have s4 := c3_.size
        exact ⟨_, _, rfl, rfl, ⟨by first | exact blk_drew_ (blk_alloc_ (blk_new_at rfl)) | exact blk_drew_ (blk_new_at (by simp))⟩, ⟨by first | exact blk_drew_ (blk_alloc_ (blk_new_at rfl)) | exact blk_drew_ (blk_new_at (by simp))⟩, ⟨blk_drew_ (blk_alloc_ (blk_alloc_ c0_))⟩, ⟨blk_drew_ (blk_alloc_ (blk_alloc_ c1_))⟩, ⟨blk_drew_ (blk_alloc_ (blk_alloc_ c2_))⟩, ⟨by omega⟩, ⟨by omega⟩, ⟨below_drew (below_alloc (below_alloc c3_ _) _)⟩⟩
  case rest =>
    obtain ⟨gp, gq, rfl, rfl, ⟨BP_0⟩, ⟨BQ_0⟩, ⟨BC_0⟩, ⟨BS_0⟩, ⟨BO_0⟩, ⟨g1⟩, ⟨g2⟩, ⟨hb0⟩⟩ := hcut
    clear BC_4 BS_4 BO_4 BX_4 BY_4 hb4 sz4 sz3 sz1
    go_wp2_with (fail)
    refine wp_region_noPanic ?_
    refine wp_at ?_
    intro u0 hu0
    have B1_a0 : u0.drew.heap[gp]? = some (.cells #[.int .u64 x5, .int .u64 x6, .int .u64 x7, .int .u64 x8] 60 (0, 0)) := by rw [hu0]; exact blk_drew_ BP_0
    have B2_a0 : u0.drew.heap[gq]? = some (.cells #[.int .u64 y5, .int .u64 y6, .int .u64 y7, .int .u64 y8] 60 (0, 0)) := by rw [hu0]; exact blk_drew_ BQ_0
    have BC_a0 : u0.drew.heap[w.heap.size]? = some (.cells #[.int .i64 0, .bool false, .bool false, .bool false, .bool false, .bool false] 46 (0, 0)) := by rw [hu0]; exact blk_drew_ BC_0
    have BS_a0 : u0.drew.heap[w.heap.size + 1]? = some (.cells #[.int .i64 0] 3 (0, 0)) := by rw [hu0]; exact blk_drew_ BS_0
    have BO_a0 : u0.drew.heap[w.heap.size + 1 + 1]? = some (.cells #[.bool false] 4 (0, 0)) := by rw [hu0]; exact blk_drew_ BO_0
    have hba0 : Below w.heap.size w u0.drew := by rw [hu0]; exact below_drew hb0
    clear hu0 BP_0 BQ_0 BC_0 BS_0 BO_0 hb0
    refine start_ (n := 20) (S := fun w' => w'.heap[gp]? = some (.cells #[.int .u64 x5, .int .u64 x6, .int .u64 x7, .int .u64 x8] 60 (0, 0)) ∧ w'.heap[gq]? = some (.cells #[.int .u64 y5, .int .u64 y6, .int .u64 y7, .int .u64 y8] 60 (0, 0))) (ds := []) #[false, false, false, false, false, false, false, false, false, false, false, false, false, false, false, false, false, false, false, false] (by kernel_rfl) rfl rfl ⟨B1_a0, B2_a0⟩ (fun hHeld => ?_)
    generalize u0.drew = u1 at *
    refine take_ (i := 0) (N := some 42) (v := ?_) (a' := ?_) #[true, false, false, false, false, false, false, false, false, false, false, false, false, false, false, false, false, false, false, false] rfl rfl (by kernel_rfl) (fun _ _ _ h => h) (Or.inl ⟨by rfl, ?_⟩) hHeld ?_ ?_
    rotate_left
    · intro w' s0
      have d5 : w'.cell? ⟨gp, 0, none⟩ = some (.int .u64 x5) := (blk_cell s0.1 0).trans rfl
      have d6 : w'.cell? ⟨gp, 1, none⟩ = some (.int .u64 x6) := (blk_cell s0.1 1).trans rfl
      have d7 : w'.cell? ⟨gp, 2, none⟩ = some (.int .u64 x7) := (blk_cell s0.1 2).trans rfl
      have d8 : w'.cell? ⟨gp, 3, none⟩ = some (.int .u64 x8) := (blk_cell s0.1 3).trans rfl
      clear s0
      go_simp
      with_reducible rfl
    rotate_left
    · simp only [Act.put, s1_, s2_, s3_, i64_w, i32_w]
      rfl
    refine take_ (i := 3) (N := some 45) (v := ?_) (a' := ?_) #[true, false, false, true, false, false, false, false, false, false, false, false, false, false, false, false, false, false, false, false] rfl rfl (by kernel_rfl) (fun _ _ _ h => h) (Or.inl ⟨by rfl, ?_⟩) hHeld ?_ ?_
    rotate_left
    · intro w' s0
      have d5 : w'.cell? ⟨gp, 0, none⟩ = some (.int .u64 x5) := (blk_cell s0.1 0).trans rfl
      have d6 : w'.cell? ⟨gp, 1, none⟩ = some (.int .u64 x6) := (blk_cell s0.1 1).trans rfl
      have d7 : w'.cell? ⟨gp, 2, none⟩ = some (.int .u64 x7) := (blk_cell s0.1 2).trans rfl
      have d8 : w'.cell? ⟨gp, 3, none⟩ = some (.int .u64 x8) := (blk_cell s0.1 3).trans rfl
      clear s0
      go_simp
      with_reducible rfl
    rotate_left
    · simp only [Act.put, s1_, s2_, s3_, i64_w, i32_w]
      rfl
    refine take_ (i := 6) (N := some 48) (v := ?_) (a' := ?_) #[true, false, false, true, false, false, true, false, false, false, false, false, false, false, false, false, false, false, false, false] rfl rfl (by kernel_rfl) (fun _ _ _ h => h) (Or.inl ⟨by rfl, ?_⟩) hHeld ?_ ?_
    rotate_left
    · intro w' s0
      have d5 : w'.cell? ⟨gp, 0, none⟩ = some (.int .u64 x5) := (blk_cell s0.1 0).trans rfl
      have d6 : w'.cell? ⟨gp, 1, none⟩ = some (.int .u64 x6) := (blk_cell s0.1 1).trans rfl
      have d7 : w'.cell? ⟨gp, 2, none⟩ = some (.int .u64 x7) := (blk_cell s0.1 2).trans rfl
      have d8 : w'.cell? ⟨gp, 3, none⟩ = some (.int .u64 x8) := (blk_cell s0.1 3).trans rfl
      clear s0
      go_simp
      with_reducible rfl
    rotate_left
    · simp only [Act.put, s1_, s2_, s3_, i64_w, i32_w]
      rfl
    refine take_ (i := 9) (N := some 51) (v := ?_) (a' := ?_) #[true, false, false, true, false, false, true, false, false, true, false, false, false, false, false, false, false, false, false, false] rfl rfl (by kernel_rfl) (fun _ _ _ h => h) (Or.inl ⟨by rfl, ?_⟩) hHeld ?_ ?_
    rotate_left
    · intro w' s0
      have d5 : w'.cell? ⟨gp, 0, none⟩ = some (.int .u64 x5) := (blk_cell s0.1 0).trans rfl
      have d6 : w'.cell? ⟨gp, 1, none⟩ = some (.int .u64 x6) := (blk_cell s0.1 1).trans rfl
      have d7 : w'.cell? ⟨gp, 2, none⟩ = some (.int .u64 x7) := (blk_cell s0.1 2).trans rfl
      have d8 : w'.cell? ⟨gp, 3, none⟩ = some (.int .u64 x8) := (blk_cell s0.1 3).trans rfl
      clear s0
      go_simp
      with_reducible rfl
    rotate_left
    · simp only [Act.put, s1_, s2_, s3_, i64_w, i32_w]
      rfl
    refine take_ (i := 12) (N := some 54) (v := ?_) (a' := ?_) #[true, false, false, true, false, false, true, false, false, true, false, false, true, false, false, false, false, false, false, false] rfl rfl (by kernel_rfl) (fun _ _ _ h => h) (Or.inl ⟨by rfl, ?_⟩) hHeld ?_ ?_
    rotate_left
    · intro w' s0
      have d5 : w'.cell? ⟨gp, 0, none⟩ = some (.int .u64 x5) := (blk_cell s0.1 0).trans rfl
      have d6 : w'.cell? ⟨gp, 1, none⟩ = some (.int .u64 x6) := (blk_cell s0.1 1).trans rfl
      have d7 : w'.cell? ⟨gp, 2, none⟩ = some (.int .u64 x7) := (blk_cell s0.1 2).trans rfl
      have d8 : w'.cell? ⟨gp, 3, none⟩ = some (.int .u64 x8) := (blk_cell s0.1 3).trans rfl
      clear s0
      go_simp
      with_reducible rfl
    rotate_left
    · simp only [Act.put, s1_, s2_, s3_, i64_w, i32_w]
      rfl
    refine take_ (i := 16) (N := some 58) (v := ?_) (a' := ?_) #[true, false, false, true, false, false, true, false, false, true, false, false, true, false, false, false, true, false, false, false] rfl rfl (by kernel_rfl) (fun _ _ _ h => h) (Or.inl ⟨by rfl, ?_⟩) hHeld ?_ ?_
    rotate_left
    · intro w' s0
      have d5 : w'.cell? ⟨gp, 0, none⟩ = some (.int .u64 x5) := (blk_cell s0.1 0).trans rfl
      have d6 : w'.cell? ⟨gp, 1, none⟩ = some (.int .u64 x6) := (blk_cell s0.1 1).trans rfl
      have d7 : w'.cell? ⟨gp, 2, none⟩ = some (.int .u64 x7) := (blk_cell s0.1 2).trans rfl
      have d8 : w'.cell? ⟨gp, 3, none⟩ = some (.int .u64 x8) := (blk_cell s0.1 3).trans rfl
      clear s0
      go_simp
      with_reducible rfl
    rotate_left
    · simp only [Act.put, s1_, s2_, s3_, i64_w, i32_w]
      rfl
    refine take_ (i := 1) (N := some 43) (v := ?_) (a' := ?_) #[true, true, false, true, false, false, true, false, false, true, false, false, true, false, false, false, true, false, false, false] rfl rfl (by kernel_rfl) (fun _ _ _ h => h) (Or.inl ⟨by rfl, ?_⟩) hHeld ?_ ?_
    rotate_left
    · intro w' s0
      have d5 : w'.cell? ⟨gq, 0, none⟩ = some (.int .u64 y5) := (blk_cell s0.2 0).trans rfl
      have d6 : w'.cell? ⟨gq, 1, none⟩ = some (.int .u64 y6) := (blk_cell s0.2 1).trans rfl
      have d7 : w'.cell? ⟨gq, 2, none⟩ = some (.int .u64 y7) := (blk_cell s0.2 2).trans rfl
      have d8 : w'.cell? ⟨gq, 3, none⟩ = some (.int .u64 y8) := (blk_cell s0.2 3).trans rfl
      clear s0
      go_simp
      with_reducible rfl
    rotate_left
    · simp only [Act.put, s1_, s2_, s3_, i64_w, i32_w]
      rfl
    refine take_ (i := 4) (N := some 46) (v := ?_) (a' := ?_) #[true, true, false, true, true, false, true, false, false, true, false, false, true, false, false, false, true, false, false, false] rfl rfl (by kernel_rfl) (fun _ _ _ h => h) (Or.inl ⟨by rfl, ?_⟩) hHeld ?_ ?_
    rotate_left
    · intro w' s0
      have d5 : w'.cell? ⟨gq, 0, none⟩ = some (.int .u64 y5) := (blk_cell s0.2 0).trans rfl
      have d6 : w'.cell? ⟨gq, 1, none⟩ = some (.int .u64 y6) := (blk_cell s0.2 1).trans rfl
      have d7 : w'.cell? ⟨gq, 2, none⟩ = some (.int .u64 y7) := (blk_cell s0.2 2).trans rfl
      have d8 : w'.cell? ⟨gq, 3, none⟩ = some (.int .u64 y8) := (blk_cell s0.2 3).trans rfl
      clear s0
      go_simp
      with_reducible rfl
    rotate_left
    · simp only [Act.put, s1_, s2_, s3_, i64_w, i32_w]
      rfl
    refine take_ (i := 7) (N := some 49) (v := ?_) (a' := ?_) #[true, true, false, true, true, false, true, true, false, true, false, false, true, false, false, false, true, false, false, false] rfl rfl (by kernel_rfl) (fun _ _ _ h => h) (Or.inl ⟨by rfl, ?_⟩) hHeld ?_ ?_
    rotate_left
    · intro w' s0
      have d5 : w'.cell? ⟨gq, 0, none⟩ = some (.int .u64 y5) := (blk_cell s0.2 0).trans rfl
      have d6 : w'.cell? ⟨gq, 1, none⟩ = some (.int .u64 y6) := (blk_cell s0.2 1).trans rfl
      have d7 : w'.cell? ⟨gq, 2, none⟩ = some (.int .u64 y7) := (blk_cell s0.2 2).trans rfl
      have d8 : w'.cell? ⟨gq, 3, none⟩ = some (.int .u64 y8) := (blk_cell s0.2 3).trans rfl
      clear s0
      go_simp
      with_reducible rfl
    rotate_left
    · simp only [Act.put, s1_, s2_, s3_, i64_w, i32_w]
      rfl
    refine take_ (i := 10) (N := some 52) (v := ?_) (a' := ?_) #[true, true, false, true, true, false, true, true, false, true, true, false, true, false, false, false, true, false, false, false] rfl rfl (by kernel_rfl) (fun _ _ _ h => h) (Or.inl ⟨by rfl, ?_⟩) hHeld ?_ ?_
    rotate_left
    · intro w' s0
      have d5 : w'.cell? ⟨gq, 0, none⟩ = some (.int .u64 y5) := (blk_cell s0.2 0).trans rfl
      have d6 : w'.cell? ⟨gq, 1, none⟩ = some (.int .u64 y6) := (blk_cell s0.2 1).trans rfl
      have d7 : w'.cell? ⟨gq, 2, none⟩ = some (.int .u64 y7) := (blk_cell s0.2 2).trans rfl
      have d8 : w'.cell? ⟨gq, 3, none⟩ = some (.int .u64 y8) := (blk_cell s0.2 3).trans rfl
      clear s0
      go_simp
      with_reducible rfl
    rotate_left
    · simp only [Act.put, s1_, s2_, s3_, i64_w, i32_w]
      rfl
    refine take_ (i := 13) (N := some 55) (v := ?_) (a' := ?_) #[true, true, false, true, true, false, true, true, false, true, true, false, true, true, false, false, true, false, false, false] rfl rfl (by kernel_rfl) (fun _ _ _ h => h) (Or.inl ⟨by rfl, ?_⟩) hHeld ?_ ?_
    rotate_left
    · intro w' s0
      have d5 : w'.cell? ⟨gq, 0, none⟩ = some (.int .u64 y5) := (blk_cell s0.2 0).trans rfl
      have d6 : w'.cell? ⟨gq, 1, none⟩ = some (.int .u64 y6) := (blk_cell s0.2 1).trans rfl
      have d7 : w'.cell? ⟨gq, 2, none⟩ = some (.int .u64 y7) := (blk_cell s0.2 2).trans rfl
      have d8 : w'.cell? ⟨gq, 3, none⟩ = some (.int .u64 y8) := (blk_cell s0.2 3).trans rfl
      clear s0
      go_simp
      with_reducible rfl
    rotate_left
    · simp only [Act.put, s1_, s2_, s3_, i64_w, i32_w]
      rfl
    refine one_ (i := 2) (N := some 44) #[true, true, true, true, true, false, true, true, false, true, true, false, true, true, false, false, true, false, false, false] rfl rfl (by kernel_rfl) (by decide) (fun K hK => ?_)
    refine goes_ Try.func60 (by kernel_rfl) rfl #[d256A x5 x6 x7 x8, d256A y5 y6 y7 y8] (by rfl) rfl rfl (by (try simp only [List.map_toArray, List.map_cons, List.map_nil]); rfl) ?_
    refine (hc u1).mono ?_
    rintro e u2 ⟨rfl, hb_⟩
    refine ⟨_, rfl, ?_⟩
    have B1_a1 := blk_below B1_a0 hb_
    have B2_a1 := blk_below B2_a0 hb_
    have BC_a1 := blk_below BC_a0 hb_
    have BS_a1 := blk_below BS_a0 hb_
    have BO_a1 := blk_below BO_a0 hb_
    have hba1 := hba0.trans (hb_.mono hba0.size)
    clear B1_a0 B2_a0 BC_a0 BS_a0 BO_a0 hba0
    refine hK.out _ _ ⟨B1_a1, B2_a1⟩ (fun hHeld2 => ?_)
    clear hK K hb_ hHeld
    have hHeld := hHeld2
    clear hHeld2
    refine norm_ (a' := ?_) ?_ ?_
    rotate_left
    · show Act.put _ (some 44) _ = _
      simp only [Act.put, s1_, s2_, s3_]
      rfl
    refine one_ (i := 5) (N := some 47) #[true, true, true, true, true, true, true, true, false, true, true, false, true, true, false, false, true, false, false, false] rfl rfl (by kernel_rfl) (by decide) (fun K hK => ?_)
    refine goes_ Try.func61 (by kernel_rfl) rfl #[d256A x5 x6 x7 x8, d256A y5 y6 y7 y8] (by rfl) rfl rfl (by (try simp only [List.map_toArray, List.map_cons, List.map_nil]); rfl) ?_
    refine (h2 u2).mono ?_
    rintro e u3 ⟨rfl, hb_⟩
    refine ⟨_, rfl, ?_⟩
    have B1_a2 := blk_below B1_a1 hb_
    have B2_a2 := blk_below B2_a1 hb_
    have BC_a2 := blk_below BC_a1 hb_
    have BS_a2 := blk_below BS_a1 hb_
    have BO_a2 := blk_below BO_a1 hb_
    have hba2 := hba1.trans (hb_.mono hba1.size)
    clear B1_a1 B2_a1 BC_a1 BS_a1 BO_a1 hba1
    refine hK.out _ _ ⟨B1_a2, B2_a2⟩ (fun hHeld2 => ?_)
    clear hK K hb_ hHeld
    have hHeld := hHeld2
    clear hHeld2
    refine norm_ (a' := ?_) ?_ ?_
    rotate_left
    · show Act.put _ (some 47) _ = _
      simp only [Act.put, s1_, s2_, s3_]
      rfl
    refine one_ (i := 8) (N := some 50) #[true, true, true, true, true, true, true, true, true, true, true, false, true, true, false, false, true, false, false, false] rfl rfl (by kernel_rfl) (by decide) (fun K hK => ?_)
    refine goes_ Try.func62 (by kernel_rfl) rfl #[d256A x5 x6 x7 x8, d256A y5 y6 y7 y8] (by rfl) rfl rfl (by (try simp only [List.map_toArray, List.map_cons, List.map_nil]); rfl) ?_
    refine (h3 u3).mono ?_
    rintro e u4 ⟨rfl, hb_⟩
    refine ⟨_, rfl, ?_⟩
    have B1_a3 := blk_below B1_a2 hb_
    have B2_a3 := blk_below B2_a2 hb_
    have BC_a3 := blk_below BC_a2 hb_
    have BS_a3 := blk_below BS_a2 hb_
    have BO_a3 := blk_below BO_a2 hb_
    have hba3 := hba2.trans (hb_.mono hba2.size)
    clear B1_a2 B2_a2 BC_a2 BS_a2 BO_a2 hba2
    refine hK.out _ _ ⟨B1_a3, B2_a3⟩ (fun hHeld2 => ?_)
    clear hK K hb_ hHeld
    have hHeld := hHeld2
    clear hHeld2
    refine norm_ (a' := ?_) ?_ ?_
    rotate_left
    · show Act.put _ (some 50) _ = _
      simp only [Act.put, s1_, s2_, s3_]
      rfl
    refine one_ (i := 11) (N := some 53) #[true, true, true, true, true, true, true, true, true, true, true, true, true, true, false, false, true, false, false, false] rfl rfl (by kernel_rfl) (by decide) (fun K hK => ?_)
    refine goes_ Try.func63 (by kernel_rfl) rfl #[d256A x5 x6 x7 x8, d256A y5 y6 y7 y8] (by rfl) rfl rfl (by (try simp only [List.map_toArray, List.map_cons, List.map_nil]); rfl) ?_
    refine (h4 u4).mono ?_
    rintro e u5 ⟨rfl, hb_⟩
    refine ⟨_, rfl, ?_⟩
    have B1_a4 := blk_below B1_a3 hb_
    have B2_a4 := blk_below B2_a3 hb_
    have BC_a4 := blk_below BC_a3 hb_
    have BS_a4 := blk_below BS_a3 hb_
    have BO_a4 := blk_below BO_a3 hb_
    have hba4 := hba3.trans (hb_.mono hba3.size)
    clear B1_a3 B2_a3 BC_a3 BS_a3 BO_a3 hba3
    refine hK.out _ _ ⟨B1_a4, B2_a4⟩ (fun hHeld2 => ?_)
    clear hK K hb_ hHeld
    have hHeld := hHeld2
    clear hHeld2
    refine norm_ (a' := ?_) ?_ ?_
    rotate_left
    · show Act.put _ (some 53) _ = _
      simp only [Act.put, s1_, s2_, s3_]
      rfl
    refine one_ (i := 14) (N := some 56) #[true, true, true, true, true, true, true, true, true, true, true, true, true, true, true, false, true, false, false, false] rfl rfl (by kernel_rfl) (by decide) (fun K hK => ?_)
    refine goes_ Try.func64 (by kernel_rfl) rfl #[d256A x5 x6 x7 x8, d256A y5 y6 y7 y8] (by rfl) rfl rfl (by (try simp only [List.map_toArray, List.map_cons, List.map_nil]); rfl) ?_
    refine (h5 u5).mono ?_
    rintro e u6 ⟨rfl, hb_⟩
    refine ⟨_, rfl, ?_⟩
    have B1_a5 := blk_below B1_a4 hb_
    have B2_a5 := blk_below B2_a4 hb_
    have BC_a5 := blk_below BC_a4 hb_
    have BS_a5 := blk_below BS_a4 hb_
    have BO_a5 := blk_below BO_a4 hb_
    have hba5 := hba4.trans (hb_.mono hba4.size)
    clear B1_a4 B2_a4 BC_a4 BS_a4 BO_a4 hba4
    refine hK.out _ _ ⟨B1_a5, B2_a5⟩ (fun hHeld2 => ?_)
    clear hK K hb_ hHeld
    have hHeld := hHeld2
    clear hHeld2
    refine norm_ (a' := ?_) ?_ ?_
    rotate_left
    · show Act.put _ (some 56) _ = _
      simp only [Act.put, s1_, s2_, s3_]
      rfl
    refine pure_ (i := 15) (N := some 57) (v := ?_) (a' := ?_) #[true, true, true, true, true, true, true, true, true, true, true, true, true, true, true, true, true, false, false, false] rfl rfl (by kernel_rfl) (fun _ _ _ h => h) (Or.inl ⟨by rfl, ?_⟩) ?_ ?_
    rotate_left
    · intro w'
      go_simp
      with_reducible rfl
    rotate_left
    · simp only [Act.put, s1_, s2_, s3_, i64_w, i32_w]
      rfl
    refine one_ (i := 17) (N := some 59) #[true, true, true, true, true, true, true, true, true, true, true, true, true, true, true, true, true, true, false, false] rfl rfl (by kernel_rfl) (by decide) (fun K hK => ?_)
    refine goes_ Try.func65 (by kernel_rfl) rfl #[d256A x5 x6 x7 x8] (by rfl) rfl rfl (by (try simp only [List.map_toArray, List.map_cons, List.map_nil]); rfl) ?_
    refine (hs u6).mono ?_
    rintro e u7 ⟨rfl, hb_⟩
    refine ⟨_, rfl, ?_⟩
    have B1_a6 := blk_below B1_a5 hb_
    have B2_a6 := blk_below B2_a5 hb_
    have BC_a6 := blk_below BC_a5 hb_
    have BS_a6 := blk_below BS_a5 hb_
    have BO_a6 := blk_below BO_a5 hb_
    have hba6 := hba5.trans (hb_.mono hba5.size)
    clear B1_a5 B2_a5 BC_a5 BS_a5 BO_a5 hba5
    refine hK.out _ _ ⟨B1_a6, B2_a6⟩ (fun hHeld2 => ?_)
    clear hK K hb_ hHeld
    have hHeld := hHeld2
    clear hHeld2
    refine norm_ (a' := ?_) ?_ ?_
    rotate_left
    · show Act.put _ (some 59) _ = _
      simp only [Act.put, s1_, s2_, s3_]
      rfl
    obtain ⟨uF, huF⟩ : ∃ uF, uF = ((((((u7.setCell ⟨w.heap.size, 0, none⟩ (.int .i64 c)).setCell ⟨w.heap.size, 1, none⟩ (.bool false)).setCell ⟨w.heap.size, 2, none⟩ (.bool b2)).setCell ⟨w.heap.size, 3, none⟩ (.bool b3)).setCell ⟨w.heap.size, 4, none⟩ (.bool b4)).setCell ⟨w.heap.size, 5, none⟩ (.bool b5)) := ⟨_, rfl⟩
    have l3 := blk_lt B2_a6
    have l4 := blk_lt B1_a6
    have B1_b : uF.heap[gp]? = some (.cells #[.int .u64 x5, .int .u64 x6, .int .u64 x7, .int .u64 x8] 60 (0, 0)) := by rw [huF]; exact far6 (by omega) B1_a6 (.int .i64 c) (.bool false) (.bool b2) (.bool b3) (.bool b4) (.bool b5)
    have B2_b : uF.heap[gq]? = some (.cells #[.int .u64 y5, .int .u64 y6, .int .u64 y7, .int .u64 y8] 60 (0, 0)) := by rw [huF]; exact far6 (by omega) B2_a6 (.int .i64 c) (.bool false) (.bool b2) (.bool b3) (.bool b4) (.bool b5)
    have BS_b : uF.heap[w.heap.size + 1]? = some (.cells #[.int .i64 0] 3 (0, 0)) := by rw [huF]; exact far6 (by omega) BS_a6 (.int .i64 c) (.bool false) (.bool b2) (.bool b3) (.bool b4) (.bool b5)
    have BO_b : uF.heap[w.heap.size + 1 + 1]? = some (.cells #[.bool false] 4 (0, 0)) := by rw [huF]; exact far6 (by omega) BO_a6 (.int .i64 c) (.bool false) (.bool b2) (.bool b3) (.bool b4) (.bool b5)
    have BC_b : uF.heap[w.heap.size]? = some (.cells #[.int .i64 c, .bool false, .bool b2, .bool b3, .bool b4, .bool b5] 46 (0, 0)) := by rw [huF]; exact put6 BC_a6 (.int .i64 c) (.bool false) (.bool b2) (.bool b3) (.bool b4) (.bool b5)
    have hbb : Below w.heap.size w uF := by rw [huF]; exact bel6 hba6 (Nat.le_refl _) (.int .i64 c) (.bool false) (.bool b2) (.bool b3) (.bool b4) (.bool b5)
    have z0_ : u7.cell? ⟨w.heap.size, 0, none⟩ = some (.int .i64 0) := (blk_cell BC_a6 0).trans rfl
    have y0_ := blk_frozen BC_a6 0
    have z1_ : u7.cell? ⟨w.heap.size, 1, none⟩ = some (.bool false) := (blk_cell BC_a6 1).trans rfl
    have y1_ := blk_frozen BC_a6 1
    have z2_ : u7.cell? ⟨w.heap.size, 2, none⟩ = some (.bool false) := (blk_cell BC_a6 2).trans rfl
    have y2_ := blk_frozen BC_a6 2
    have z3_ : u7.cell? ⟨w.heap.size, 3, none⟩ = some (.bool false) := (blk_cell BC_a6 3).trans rfl
    have y3_ := blk_frozen BC_a6 3
    have z4_ : u7.cell? ⟨w.heap.size, 4, none⟩ = some (.bool false) := (blk_cell BC_a6 4).trans rfl
    have y4_ := blk_frozen BC_a6 4
    have z5_ : u7.cell? ⟨w.heap.size, 5, none⟩ = some (.bool false) := (blk_cell BC_a6 5).trans rfl
    have y5_ := blk_frozen BC_a6 5
    refine one_ (i := 18) (N := none) #[true, true, true, true, true, true, true, true, true, true, true, true, true, true, true, true, true, true, true, false] rfl rfl (by kernel_rfl) (by decide) (fun K hK => ?_)
    refine skip_ (w1 := uF) (by rfl) rfl ?_ ?_
    · clear B1_b B2_b BC_b BS_b BO_b hbb B1_a6 B2_a6 BC_a6 BS_a6 BO_a6 hba6 hHeld
      have HF := Lib.hid huF
      clear huF
      go_simp
      rw [HF.out]
    refine hK.out _ _ ⟨B1_b, B2_b⟩ (fun hHeld2 => ?_)
    clear hK K hHeld huF hHeld2 B1_a6 B2_a6 BC_a6 BS_a6 BO_a6 hba6 z0_ y0_ z1_ y1_ z2_ y2_ z3_ y3_ z4_ y4_ z5_ y5_
    obtain ⟨uG, huG⟩ : ∃ uG, uG = uF.setCell ⟨w.heap.size + 1, 0, none⟩ (.int .i64 s) := ⟨_, rfl⟩
    have B1_c : uG.heap[gp]? = some (.cells #[.int .u64 x5, .int .u64 x6, .int .u64 x7, .int .u64 x8] 60 (0, 0)) := by rw [huG]; exact blk_other_ (by omega) B1_b
    have B2_c : uG.heap[gq]? = some (.cells #[.int .u64 y5, .int .u64 y6, .int .u64 y7, .int .u64 y8] 60 (0, 0)) := by rw [huG]; exact blk_other_ (by omega) B2_b
    have BC_c : uG.heap[w.heap.size]? = some (.cells #[.int .i64 c, .bool false, .bool b2, .bool b3, .bool b4, .bool b5] 46 (0, 0)) := by rw [huG]; exact blk_other_ (by omega) BC_b
    have BO_c : uG.heap[w.heap.size + 1 + 1]? = some (.cells #[.bool false] 4 (0, 0)) := by rw [huG]; exact blk_other_ (by omega) BO_b
    have BS_c : uG.heap[w.heap.size + 1]? = some (.cells #[.int .i64 s] 3 (0, 0)) := by rw [huG]; exact blk_put_at BS_b rfl
    have hbc : Below w.heap.size w uG := by rw [huG]; exact below_set hbb (by omega)
    have z_ : uF.cell? ⟨w.heap.size + 1, 0, none⟩ = some (.int .i64 0) := (blk_cell BS_b 0).trans rfl
    have y_ := blk_frozen BS_b 0
    refine one_ (i := 19) (N := none) #[true, true, true, true, true, true, true, true, true, true, true, true, true, true, true, true, true, true, true, true] rfl rfl (by kernel_rfl) (by decide) (fun K hK => ?_)
    refine skip_ (w1 := uG) (by rfl) rfl ?_ ?_
    · clear B1_b B2_b BC_b BS_b BO_b hbb B1_c B2_c BC_c BS_c BO_c hbc
      have HF := Lib.hid huG
      clear huG
      go_simp
      rw [HF.out]
    refine hK.out _ _ ⟨B1_c, B2_c⟩ (fun hHeld2 => ?_)
    clear hK K huG hHeld2 B1_b B2_b BC_b BS_b BO_b hbb z_ y_
    refine done_ (by kernel_rfl) ?_
    refine NoPanic.normal ?_
    have z0_ : uG.cell? ⟨w.heap.size, 0, none⟩ = some (.int .i64 c) := (blk_cell BC_c 0).trans rfl
    have y0_ := blk_frozen BC_c 0
    have z1_ : uG.cell? ⟨w.heap.size, 1, none⟩ = some (.bool false) := (blk_cell BC_c 1).trans rfl
    have y1_ := blk_frozen BC_c 1
    have z2_ : uG.cell? ⟨w.heap.size, 2, none⟩ = some (.bool b2) := (blk_cell BC_c 2).trans rfl
    have y2_ := blk_frozen BC_c 2
    have z3_ : uG.cell? ⟨w.heap.size, 3, none⟩ = some (.bool b3) := (blk_cell BC_c 3).trans rfl
    have y3_ := blk_frozen BC_c 3
    have z4_ : uG.cell? ⟨w.heap.size, 4, none⟩ = some (.bool b4) := (blk_cell BC_c 4).trans rfl
    have y4_ := blk_frozen BC_c 4
    have z5_ : uG.cell? ⟨w.heap.size, 5, none⟩ = some (.bool b5) := (blk_cell BC_c 5).trans rfl
    have y5_ := blk_frozen BC_c 5
    have zs_ : uG.cell? ⟨w.heap.size + 1, 0, none⟩ = some (.int .i64 s) := (blk_cell BS_c 0).trans rfl
    have ys_ := blk_frozen BS_c 0
    have zo_ : uG.cell? ⟨w.heap.size + 1 + 1, 0, none⟩ = some (.bool false) := (blk_cell BO_c 0).trans rfl
    have yo_ := blk_frozen BO_c 0
    have HC := Lib.hid (And.intro BC_c (And.intro BS_c (And.intro BO_c hbc)))
    clear BC_c BS_c BO_c hbc B1_c B2_c hc hs h2 h3 h4 h5
    go_wp2_with (fail)
    clear z0_ y0_ z1_ y1_ z2_ y2_ z3_ y3_ z4_ y4_ z5_ y5_ zs_ ys_ zo_ yo_
    refine wp_region_noPanic ?_
    refine wp_at ?_
    intro v0 hv0
    obtain ⟨BC_c, BS_c, BO_c, hbc⟩ := HC.out
    clear HC
    have BC_d : v0.drew.heap[w.heap.size]? = some (.cells #[.int .i64 c, .bool (c == 0), .bool b2, .bool b3, .bool b4, .bool b5] 46 (0, 0)) := by rw [hv0]; exact blk_drew_ (blk_put_at BC_c rfl)
    have BS_d : v0.drew.heap[w.heap.size + 1]? = some (.cells #[.int .i64 s] 3 (0, 0)) := by rw [hv0]; exact blk_drew_ (blk_other_ (by omega) BS_c)
    have BO_d : v0.drew.heap[w.heap.size + 1 + 1]? = some (.cells #[.bool false] 4 (0, 0)) := by rw [hv0]; exact blk_drew_ (blk_other_ (by omega) BO_c)
    have hbd : Below w.heap.size w v0.drew := by rw [hv0]; exact below_drew (below_set hbc (Nat.le_refl _))
    clear hv0 BC_c BS_c BO_c hbc
    refine start_ (n := 5) (S := fun w' => w'.heap[w.heap.size]? = some (.cells #[.int .i64 c, .bool (c == 0), .bool b2, .bool b3, .bool b4, .bool b5] 46 (0, 0)) ∧ w'.heap[w.heap.size + 1]? = some (.cells #[.int .i64 s] 3 (0, 0))) (ds := []) #[false, false, false, false, false] (by kernel_rfl) rfl rfl ⟨BC_d, BS_d⟩ (fun hHeld => ?_)
    generalize v0.drew = v1 at *
    refine take_ (i := 0) (N := some 110) (v := ?_) (a' := ?_) #[true, false, false, false, false] rfl rfl (by kernel_rfl) (fun _ _ _ h => h) (Or.inl ⟨by rfl, ?_⟩) hHeld ?_ ?_
    rotate_left
    · intro w' s0
      have d0 : w'.cell? ⟨w.heap.size, 0, none⟩ = some (.int .i64 c) := (blk_cell s0.1 0).trans rfl
      have d1 : w'.cell? ⟨w.heap.size, 1, none⟩ = some (.bool (c == 0)) := (blk_cell s0.1 1).trans rfl
      have d2 : w'.cell? ⟨w.heap.size, 2, none⟩ = some (.bool b2) := (blk_cell s0.1 2).trans rfl
      have d3 : w'.cell? ⟨w.heap.size, 3, none⟩ = some (.bool b3) := (blk_cell s0.1 3).trans rfl
      have d4 : w'.cell? ⟨w.heap.size, 4, none⟩ = some (.bool b4) := (blk_cell s0.1 4).trans rfl
      have d5 : w'.cell? ⟨w.heap.size, 5, none⟩ = some (.bool b5) := (blk_cell s0.1 5).trans rfl
      clear s0
      go_simp
      with_reducible rfl
    rotate_left
    · simp only [Act.put, s1_, s2_, s3_, i64_w, i32_w]
      rfl
    refine take_ (i := 1) (N := some 111) (v := ?_) (a' := ?_) #[true, true, false, false, false] rfl rfl (by kernel_rfl) (fun _ _ _ h => h) (Or.inl ⟨by rfl, ?_⟩) hHeld ?_ ?_
    rotate_left
    · intro w' s0
      have d0 : w'.cell? ⟨w.heap.size + 1, 0, none⟩ = some (.int .i64 s) := (blk_cell s0.2 0).trans rfl
      clear s0
      go_simp
      with_reducible rfl
    rotate_left
    · simp only [Act.put, s1_, s2_, s3_, i64_w, i32_w]
      rfl
    obtain ⟨vA, hvA⟩ : ∃ vA, vA = ((((((v1.setCell ⟨w.heap.size, 0, none⟩ (.int .i64 c)).setCell ⟨w.heap.size, 1, none⟩ (.bool (c == 0))).setCell ⟨w.heap.size, 2, none⟩ (.bool b2)).setCell ⟨w.heap.size, 3, none⟩ (.bool b3)).setCell ⟨w.heap.size, 4, none⟩ (.bool b4)).setCell ⟨w.heap.size, 5, none⟩ (.bool b5)) := ⟨_, rfl⟩
    have BC_e : vA.heap[w.heap.size]? = some (.cells #[.int .i64 c, .bool (c == 0), .bool b2, .bool b3, .bool b4, .bool b5] 46 (0, 0)) := by rw [hvA]; exact put6 BC_d (.int .i64 c) (.bool (c == 0)) (.bool b2) (.bool b3) (.bool b4) (.bool b5)
    have BS_e : vA.heap[w.heap.size + 1]? = some (.cells #[.int .i64 s] 3 (0, 0)) := by rw [hvA]; exact far6 (by omega) BS_d (.int .i64 c) (.bool (c == 0)) (.bool b2) (.bool b3) (.bool b4) (.bool b5)
    have BO_e : vA.heap[w.heap.size + 1 + 1]? = some (.cells #[.bool false] 4 (0, 0)) := by rw [hvA]; exact far6 (by omega) BO_d (.int .i64 c) (.bool (c == 0)) (.bool b2) (.bool b3) (.bool b4) (.bool b5)
    have hbe : Below w.heap.size w vA := by rw [hvA]; exact bel6 hbd (Nat.le_refl _) (.int .i64 c) (.bool (c == 0)) (.bool b2) (.bool b3) (.bool b4) (.bool b5)
    have z0_ : v1.cell? ⟨w.heap.size, 0, none⟩ = some (.int .i64 c) := (blk_cell BC_d 0).trans rfl
    have y0_ := blk_frozen BC_d 0
    have z1_ : v1.cell? ⟨w.heap.size, 1, none⟩ = some (.bool (c == 0)) := (blk_cell BC_d 1).trans rfl
    have y1_ := blk_frozen BC_d 1
    have z2_ : v1.cell? ⟨w.heap.size, 2, none⟩ = some (.bool b2) := (blk_cell BC_d 2).trans rfl
    have y2_ := blk_frozen BC_d 2
    have z3_ : v1.cell? ⟨w.heap.size, 3, none⟩ = some (.bool b3) := (blk_cell BC_d 3).trans rfl
    have y3_ := blk_frozen BC_d 3
    have z4_ : v1.cell? ⟨w.heap.size, 4, none⟩ = some (.bool b4) := (blk_cell BC_d 4).trans rfl
    have y4_ := blk_frozen BC_d 4
    have z5_ : v1.cell? ⟨w.heap.size, 5, none⟩ = some (.bool b5) := (blk_cell BC_d 5).trans rfl
    have y5_ := blk_frozen BC_d 5
    refine one_ (i := 2) (N := none) #[true, true, true, false, false] rfl rfl (by kernel_rfl) (by decide) (fun K hK => ?_)
    refine skip_ (w1 := vA) (by rfl) rfl ?_ ?_
    · clear BC_e BS_e BO_e hbe BC_d BS_d BO_d hbd hHeld
      have HF := Lib.hid hvA
      clear hvA
      go_simp
      rw [HF.out]
    refine hK.out _ _ ⟨BC_e, BS_e⟩ (fun hHeld2 => ?_)
    clear hK K hHeld hvA hHeld2 BC_d BS_d BO_d hbd z0_ y0_ z1_ y1_ z2_ y2_ z3_ y3_ z4_ y4_ z5_ y5_
    obtain ⟨vB, hvB⟩ : ∃ vB, vB = vA.setCell ⟨w.heap.size + 1, 0, none⟩ (.int .i64 s) := ⟨_, rfl⟩
    have BC_f : vB.heap[w.heap.size]? = some (.cells #[.int .i64 c, .bool (c == 0), .bool b2, .bool b3, .bool b4, .bool b5] 46 (0, 0)) := by rw [hvB]; exact blk_other_ (by omega) BC_e
    have BS_f : vB.heap[w.heap.size + 1]? = some (.cells #[.int .i64 s] 3 (0, 0)) := by rw [hvB]; exact blk_put_at BS_e rfl
    have BO_f : vB.heap[w.heap.size + 1 + 1]? = some (.cells #[.bool false] 4 (0, 0)) := by rw [hvB]; exact blk_other_ (by omega) BO_e
    have hbf : Below w.heap.size w vB := by rw [hvB]; exact below_set hbe (by omega)
    have z_ : vA.cell? ⟨w.heap.size + 1, 0, none⟩ = some (.int .i64 s) := (blk_cell BS_e 0).trans rfl
    have y_ := blk_frozen BS_e 0
    refine one_ (i := 3) (N := none) #[true, true, true, true, false] rfl rfl (by kernel_rfl) (by decide) (fun K hK => ?_)
    refine skip_ (w1 := vB) (by rfl) rfl ?_ ?_
    · clear BC_e BS_e BO_e hbe BC_f BS_f BO_f hbf
      have HF := Lib.hid hvB
      clear hvB
      go_simp
      rw [HF.out]
    refine hK.out _ _ ⟨BC_f, BS_f⟩ (fun hHeld2 => ?_)
    clear hK K hvB hHeld2 BC_e BS_e BO_e hbe z_ y_
    obtain ⟨vC, hvC⟩ : ∃ vC, vC = vB.setCell ⟨w.heap.size + 1 + 1, 0, none⟩ (.bool true) := ⟨_, rfl⟩
    have BC_g : vC.heap[w.heap.size]? = some (.cells #[.int .i64 c, .bool (c == 0), .bool b2, .bool b3, .bool b4, .bool b5] 46 (0, 0)) := by rw [hvC]; exact blk_other_ (by omega) BC_f
    have BS_g : vC.heap[w.heap.size + 1]? = some (.cells #[.int .i64 s] 3 (0, 0)) := by rw [hvC]; exact blk_other_ (by omega) BS_f
    have BO_g : vC.heap[w.heap.size + 1 + 1]? = some (.cells #[.bool true] 4 (0, 0)) := by rw [hvC]; exact blk_put_at BO_f rfl
    have hbg : Below w.heap.size w vC := by rw [hvC]; exact below_set hbf (by omega)
    have z_ : vB.cell? ⟨w.heap.size + 1 + 1, 0, none⟩ = some (.bool false) := (blk_cell BO_f 0).trans rfl
    have y_ := blk_frozen BO_f 0
    refine one_ (i := 4) (N := none) #[true, true, true, true, true] rfl rfl (by kernel_rfl) (by decide) (fun K hK => ?_)
    refine skip_ (w1 := vC) (by rfl) rfl ?_ ?_
    · clear BC_g BS_g BO_g hbg BC_f BS_f BO_f hbf
      have HF := Lib.hid hvC
      clear hvC
      go_simp
      rw [HF.out]
    refine hK.out _ _ ⟨BC_g, BS_g⟩ (fun hHeld2 => ?_)
    clear hK K hvC hHeld2 BC_f BS_f BO_f hbf z_ y_
    refine done_ (by kernel_rfl) ?_
    refine NoPanic.normal ?_
    go_wp2_with (fail)
    refine leaves_cons (f := 49) (args := #[.pointer (some ⟨w.heap.size, 0, none⟩), .pointer (some ⟨w.heap.size + 1, 0, none⟩), .pointer (some ⟨w.heap.size + 1 + 1, 0, none⟩)]) (by simp) (by simp [go_sem]) ?_
    refine (catch_cmp _ _ _ _).mono ?_
    rintro e u' w'' ⟨rfl, rfl, rfl⟩
    have c0 := (blk_cell BC_g 0).trans (show _ = some (Value.int .i64 c) from rfl)
    have c1 := (blk_cell BC_g 1).trans (show _ = some (Value.bool (c == 0)) from rfl)
    have c2 := (blk_cell BC_g 2).trans (show _ = some (Value.bool b2) from rfl)
    have c3 := (blk_cell BC_g 3).trans (show _ = some (Value.bool b3) from rfl)
    have c4 := (blk_cell BC_g 4).trans (show _ = some (Value.bool b4) from rfl)
    have c5 := (blk_cell BC_g 5).trans (show _ = some (Value.bool b5) from rfl)
    have cs := (blk_cell BS_g 0).trans (show _ = some (Value.int .i64 s) from rfl)
    have co := (blk_cell BO_g 0).trans (show _ = some (Value.bool true) from rfl)
    simp [Leaves, settle, results, Try.results19, go_sem, c0, c1, c2, c3, c4, c5, cs, co]
    exact hbg
end Go.Proofs.Ytiiicmfobljnaaa.V
