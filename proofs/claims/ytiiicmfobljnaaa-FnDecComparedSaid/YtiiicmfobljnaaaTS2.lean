/- What impl.decOf and (dec).words do at 128 and 256 bits. -/
import Derived.Test.YtiiicmfobljnaaaTS1
import Derived.Deep.RegionWith
namespace Go.Proofs.Ytiiicmfobljnaaa.V
open Go.RowKit Go.Proofs.YtiiicmfobljnaaaW.PrintWords Go.Proofs.YtiiicmfobljnaaaW.PrintLast Go.Proofs.YtiiicmfobljnaaaW.PrintMore
set_option linter.unusedVariables false
set_option linter.unusedSimpArgs false
set_option maxHeartbeats 8000000 in
set_option maxRecDepth 100000 in
theorem decOf128 (ad : Addr) (c : Nat) (x0 x1 : Int) (w : World) (hc0 : w.cell? ad = some (.int .u64 x0)) (hc1 : w.cell? ⟨ad.block, ad.off + 1, none⟩ = some (.int .u64 x1)) :
    Calls Try.prog 23 #[.int .i64 128, .slice (some ad) 2 c] w fun e w' => e = .returned (.tuple #[decA 128 0 0 x0 (wrap64 x1) 0 0 0 0, .bool true]) ∧ Below w.heap.size w w' := by
  have hlt0 := World.block_lt_of_cell? w _ hc0
  have hb0 : ∀ o, (w.alloc o).cell? ad = some (.int .u64 x0) := fun o => (World.cell?_alloc_lt _ _ _ hlt0).trans hc0
  have hlt1 := World.block_lt_of_cell? w _ hc1
  have hb1 : ∀ o, (w.alloc o).cell? ⟨ad.block, ad.off + 1, none⟩ = some (.int .u64 x1) := fun o => (World.cell?_alloc_lt _ _ _ hlt1).trans hc1
  go_enter Try.func23, Try.ntmps23
  go_wp2
  go_quiet (fail)
  go_wp2_with (fail)
  refine wp_at ?_
  intro w0 hw0
  have B4 : w0.drew.heap[w.heap.size]? = some (.cells #[.int .i64 0, .int .i32 0, .int .i64 0, .int .u64 0, .int .i64 0, .int .u64 0, .int .u64 0, .int .u64 0, .int .u64 0] 62 (0, 0)) := by rw [hw0]; exact blk_new_at rfl
  have d0 : w0.cell? ad = some (.int .u64 x0) := by rw [hw0]; exact hb0 _
  have d1 : w0.cell? ⟨ad.block, ad.off + 1, none⟩ = some (.int .u64 x1) := by rw [hw0]; exact hb1 _
  have hB0 : Below w.heap.size w w0.drew := by rw [hw0]; exact below_drew (pw_below_drewN (below_alloc (Below.refl _ _) _) _)
  clear hw0
  clear hb0 hlt0 hc0 hb1 hlt1 hc1
  go_region_with (go_at_call 66; refine (new128 (IntKind.i64.wrap x1) x0 _).mono ?_; rintro e w1 ⟨rfl, hb_⟩; have B5 := blk_below B4 hb_; have z0 : w1.cell? ⟨w.heap.size, 0, none⟩ = some (.int .i64 0) := (blk_cell B5 0).trans rfl; have y0 := blk_frozen B5 0; have z1 : w1.cell? ⟨w.heap.size, 1, none⟩ = some (.int .i32 0) := (blk_cell B5 1).trans rfl; have y1 := blk_frozen B5 1; have z2 : w1.cell? ⟨w.heap.size, 2, none⟩ = some (.int .i64 0) := (blk_cell B5 2).trans rfl; have y2 := blk_frozen B5 2; have z3 : w1.cell? ⟨w.heap.size, 3, none⟩ = some (.int .u64 0) := (blk_cell B5 3).trans rfl; have y3 := blk_frozen B5 3; have z4 : w1.cell? ⟨w.heap.size, 4, none⟩ = some (.int .i64 0) := (blk_cell B5 4).trans rfl; have y4 := blk_frozen B5 4; have z5 : w1.cell? ⟨w.heap.size, 5, none⟩ = some (.int .u64 0) := (blk_cell B5 5).trans rfl; have y5 := blk_frozen B5 5; have z6 : w1.cell? ⟨w.heap.size, 6, none⟩ = some (.int .u64 0) := (blk_cell B5 6).trans rfl; have y6 := blk_frozen B5 6; have z7 : w1.cell? ⟨w.heap.size, 7, none⟩ = some (.int .u64 0) := (blk_cell B5 7).trans rfl; have y7 := blk_frozen B5 7; have z8 : w1.cell? ⟨w.heap.size, 8, none⟩ = some (.int .u64 0) := (blk_cell B5 8).trans rfl; have y8 := blk_frozen B5 8; have HB := Lib.hid (hB0.trans (hb_.mono hB0.size)); clear hb_ B5)
  all_goals go_wp2_with (fail)
  all_goals
    refine bodyPost_ret (v := .tuple #[decA 128 0 0 x0 (wrap64 x1) 0 0 0 0, .bool true]) (by simp [results, Try.results23, go_sem, IntKind.wrap_i64, wrap64, z0, z1, z2, z3, z4, z5, z6, z7, z8]) rfl ⟨rfl, ?_⟩
    repeat (first | refine Below.setCell ?_ (by simp; try omega) _)
    exact HB.out
theorem far9 {W : World} {g : Nat} {a : Addr} {v : Value} (hne : g ≠ a.block) (h : W.cell? a = some v) (v0 v1 v2 v3 v4 v5 v6 v7 v8 : Value) :
    (((((((((W.setCell ⟨g, 0, none⟩ v0).setCell ⟨g, 1, none⟩ v1).setCell ⟨g, 2, none⟩ v2).setCell ⟨g, 3, none⟩ v3).setCell ⟨g, 4, none⟩ v4).setCell ⟨g, 5, none⟩ v5).setCell ⟨g, 6, none⟩ v6).setCell ⟨g, 7, none⟩ v7).setCell ⟨g, 8, none⟩ v8).cell? a = some v := by
  have f := fun (W : World) (i : Nat) (x : Value) => World.cell?_setCell_far W ⟨g, i, none⟩ a x hne
  rw [f, f, f, f, f, f, f, f, f, h]

theorem put9 {W : World} {g : Nat} {t : TypeId} {u0 u1 u2 u3 u4 u5 u6 u7 u8 : Value} (h : W.heap[g]? = some (.cells #[u0, u1, u2, u3, u4, u5, u6, u7, u8] t (0, 0))) (v0 v1 v2 v3 v4 v5 v6 v7 v8 : Value) :
    (((((((((W.setCell ⟨g, 0, none⟩ v0).setCell ⟨g, 1, none⟩ v1).setCell ⟨g, 2, none⟩ v2).setCell ⟨g, 3, none⟩ v3).setCell ⟨g, 4, none⟩ v4).setCell ⟨g, 5, none⟩ v5).setCell ⟨g, 6, none⟩ v6).setCell ⟨g, 7, none⟩ v7).setCell ⟨g, 8, none⟩ v8).heap[g]? = some (.cells #[v0, v1, v2, v3, v4, v5, v6, v7, v8] t (0, 0)) := by
  have h0 := blk_put_at (cs' := #[v0, u1, u2, u3, u4, u5, u6, u7, u8]) (i := 0) (u := v0) h rfl
  have h1 := blk_put_at (cs' := #[v0, v1, u2, u3, u4, u5, u6, u7, u8]) (i := 1) (u := v1) h0 rfl
  have h2 := blk_put_at (cs' := #[v0, v1, v2, u3, u4, u5, u6, u7, u8]) (i := 2) (u := v2) h1 rfl
  have h3 := blk_put_at (cs' := #[v0, v1, v2, v3, u4, u5, u6, u7, u8]) (i := 3) (u := v3) h2 rfl
  have h4 := blk_put_at (cs' := #[v0, v1, v2, v3, v4, u5, u6, u7, u8]) (i := 4) (u := v4) h3 rfl
  have h5 := blk_put_at (cs' := #[v0, v1, v2, v3, v4, v5, u6, u7, u8]) (i := 5) (u := v5) h4 rfl
  have h6 := blk_put_at (cs' := #[v0, v1, v2, v3, v4, v5, v6, u7, u8]) (i := 6) (u := v6) h5 rfl
  have h7 := blk_put_at (cs' := #[v0, v1, v2, v3, v4, v5, v6, v7, u8]) (i := 7) (u := v7) h6 rfl
  exact blk_put_at (cs' := #[v0, v1, v2, v3, v4, v5, v6, v7, v8]) (i := 8) (u := v8) h7 rfl
theorem below9 {w W : World} {g : Nat} (h : Below w.heap.size w W) (hg : w.heap.size ≤ g) (v0 v1 v2 v3 v4 v5 v6 v7 v8 : Value) :
    Below w.heap.size w (((((((((W.setCell ⟨g, 0, none⟩ v0).setCell ⟨g, 1, none⟩ v1).setCell ⟨g, 2, none⟩ v2).setCell ⟨g, 3, none⟩ v3).setCell ⟨g, 4, none⟩ v4).setCell ⟨g, 5, none⟩ v5).setCell ⟨g, 6, none⟩ v6).setCell ⟨g, 7, none⟩ v7).setCell ⟨g, 8, none⟩ v8) :=
  below_set (below_set (below_set (below_set (below_set (below_set (below_set (below_set (below_set h hg) hg) hg) hg) hg) hg) hg) hg) hg
set_option maxHeartbeats 800000 in
set_option maxRecDepth 100000 in
theorem decOf256 (ad : Addr) (c : Nat) (x0 x1 x2 x3 : Int) (w : World) (hc0 : w.cell? ad = some (.int .u64 x0)) (hc1 : w.cell? ⟨ad.block, ad.off + 1, none⟩ = some (.int .u64 x1)) (hc2 : w.cell? ⟨ad.block, ad.off + 2, none⟩ = some (.int .u64 x2)) (hc3 : w.cell? ⟨ad.block, ad.off + 3, none⟩ = some (.int .u64 x3)) :
    Calls Try.prog 23 #[.int .i64 256, .slice (some ad) 4 c] w fun e w' => e = .returned (.tuple #[decA 256 0 0 0 0 x0 x1 x2 x3, .bool true]) ∧ Below w.heap.size w w' := by
  have hne0 : w.heap.size ≠ ad.block := Ne.symm (Nat.ne_of_lt (World.block_lt_of_cell? w _ hc0))
  have hlt0 := World.block_lt_of_cell? w _ hc0
  have hb0 : ∀ o, (w.alloc o).cell? ad = some (.int .u64 x0) := fun o => (World.cell?_alloc_lt _ _ _ hlt0).trans hc0
  have hlt1 := World.block_lt_of_cell? w _ hc1
  have hb1 : ∀ o, (w.alloc o).cell? ⟨ad.block, ad.off + 1, none⟩ = some (.int .u64 x1) := fun o => (World.cell?_alloc_lt _ _ _ hlt1).trans hc1
  have hlt2 := World.block_lt_of_cell? w _ hc2
  have hb2 : ∀ o, (w.alloc o).cell? ⟨ad.block, ad.off + 2, none⟩ = some (.int .u64 x2) := fun o => (World.cell?_alloc_lt _ _ _ hlt2).trans hc2
  have hlt3 := World.block_lt_of_cell? w _ hc3
  have hb3 : ∀ o, (w.alloc o).cell? ⟨ad.block, ad.off + 3, none⟩ = some (.int .u64 x3) := fun o => (World.cell?_alloc_lt _ _ _ hlt3).trans hc3
  go_enter Try.func23, Try.ntmps23
  go_wp2
  go_quiet (fail)
  go_wp2_with (fail)
  refine wp_at ?_
  intro w0 hw0
  have B4 : w0.drew.heap[w.heap.size]? = some (.cells #[.int .i64 0, .int .i32 0, .int .i64 0, .int .u64 0, .int .i64 0, .int .u64 0, .int .u64 0, .int .u64 0, .int .u64 0] 62 (0, 0)) := by rw [hw0]; exact blk_new_at rfl
  have d0 : w0.cell? ad = some (.int .u64 x0) := by rw [hw0]; exact hb0 _
  have d1 : w0.cell? ⟨ad.block, ad.off + 1, none⟩ = some (.int .u64 x1) := by rw [hw0]; exact hb1 _
  have d2 : w0.cell? ⟨ad.block, ad.off + 2, none⟩ = some (.int .u64 x2) := by rw [hw0]; exact hb2 _
  have d3 : w0.cell? ⟨ad.block, ad.off + 3, none⟩ = some (.int .u64 x3) := by rw [hw0]; exact hb3 _
  have hB0 : Below w.heap.size w w0.drew := by rw [hw0]; exact below_drew (pw_below_drewN (below_alloc (Below.refl _ _) _) _)
  clear hw0
  clear hb0 hlt0 hc0 hb1 hlt1 hc1 hb2 hlt2 hc2 hb3 hlt3 hc3
  refine start_ (n := 17) (S := fun w' => w'.cell? ad = some (.int .u64 x0) ∧ w'.cell? ⟨ad.block, ad.off + 1, none⟩ = some (.int .u64 x1) ∧ w'.cell? ⟨ad.block, ad.off + 2, none⟩ = some (.int .u64 x2) ∧ w'.cell? ⟨ad.block, ad.off + 3, none⟩ = some (.int .u64 x3)) (ds := []) #[false, false, false, false, false, false, false, false, false, false, false, false, false, false, false, false, false] (by kernel_rfl) rfl rfl ⟨d0, d1, d2, d3⟩ (fun hHeld => ?_)
  clear d0 d1 d2 d3
  generalize w0.drew = w1 at *
  refine pure_ (i := 0) (N := some 72) (v := ?_) (a' := ?_) #[true, false, false, false, false, false, false, false, false, false, false, false, false, false, false, false, false] rfl rfl (by kernel_rfl) (fun _ _ _ h => h) (Or.inl ⟨by rfl, ?_⟩) ?_ ?_
  rotate_left
  · intro w'
    go_simp
    with_reducible rfl
  rotate_left
  · simp only [Act.put, s1_, s2_, s3_, i64_w, i32_w]
    rfl
  refine pure_ (i := 1) (N := some 73) (v := ?_) (a' := ?_) #[true, true, false, false, false, false, false, false, false, false, false, false, false, false, false, false, false] rfl rfl (by kernel_rfl) (fun _ _ _ h => h) (Or.inl ⟨by rfl, ?_⟩) ?_ ?_
  rotate_left
  · intro w'
    go_simp
    with_reducible rfl
  rotate_left
  · simp only [Act.put, s1_, s2_, s3_, i64_w, i32_w]
    rfl
  refine pure_ (i := 2) (N := some 74) (v := ?_) (a' := ?_) #[true, true, true, false, false, false, false, false, false, false, false, false, false, false, false, false, false] rfl rfl (by kernel_rfl) (fun _ _ _ h => h) (Or.inl ⟨by rfl, ?_⟩) ?_ ?_
  rotate_left
  · intro w'
    go_simp
    with_reducible rfl
  rotate_left
  · simp only [Act.put, s1_, s2_, s3_, i64_w, i32_w]
    rfl
  refine take_ (i := 3) (N := some 75) (v := ?_) (a' := ?_) #[true, true, true, true, false, false, false, false, false, false, false, false, false, false, false, false, false] rfl rfl (by kernel_rfl) (fun _ _ _ h => h) (Or.inl ⟨by rfl, ?_⟩) hHeld ?_ ?_
  rotate_left
  · intro w' s0
    obtain ⟨d0, d1, d2, d3⟩ := s0
    go_simp
    with_reducible rfl
  rotate_left
  · simp only [Act.put, s1_, s2_, s3_, i64_w, i32_w]
    rfl
  refine pure_ (i := 4) (N := some 76) (v := ?_) (a' := ?_) #[true, true, true, true, true, false, false, false, false, false, false, false, false, false, false, false, false] rfl rfl (by kernel_rfl) (fun _ _ _ h => h) (Or.inl ⟨by rfl, ?_⟩) ?_ ?_
  rotate_left
  · intro w'
    go_simp
    with_reducible rfl
  rotate_left
  · simp only [Act.put, s1_, s2_, s3_, i64_w, i32_w]
    rfl
  refine pure_ (i := 5) (N := some 77) (v := ?_) (a' := ?_) #[true, true, true, true, true, true, false, false, false, false, false, false, false, false, false, false, false] rfl rfl (by kernel_rfl) (fun _ _ _ h => h) (Or.inl ⟨by rfl, ?_⟩) ?_ ?_
  rotate_left
  · intro w'
    go_simp
    with_reducible rfl
  rotate_left
  · simp only [Act.put, s1_, s2_, s3_, i64_w, i32_w]
    rfl
  refine take_ (i := 6) (N := some 78) (v := ?_) (a' := ?_) #[true, true, true, true, true, true, true, false, false, false, false, false, false, false, false, false, false] rfl rfl (by kernel_rfl) (fun _ _ _ h => h) (Or.inl ⟨by rfl, ?_⟩) hHeld ?_ ?_
  rotate_left
  · intro w' s0
    obtain ⟨d0, d1, d2, d3⟩ := s0
    go_simp
    with_reducible rfl
  rotate_left
  · simp only [Act.put, s1_, s2_, s3_, i64_w, i32_w]
    rfl
  refine pure_ (i := 7) (N := some 79) (v := ?_) (a' := ?_) #[true, true, true, true, true, true, true, true, false, false, false, false, false, false, false, false, false] rfl rfl (by kernel_rfl) (fun _ _ _ h => h) (Or.inl ⟨by rfl, ?_⟩) ?_ ?_
  rotate_left
  · intro w'
    go_simp
    with_reducible rfl
  rotate_left
  · simp only [Act.put, s1_, s2_, s3_, i64_w, i32_w]
    rfl
  refine pure_ (i := 8) (N := some 80) (v := ?_) (a' := ?_) #[true, true, true, true, true, true, true, true, true, false, false, false, false, false, false, false, false] rfl rfl (by kernel_rfl) (fun _ _ _ h => h) (Or.inl ⟨by rfl, ?_⟩) ?_ ?_
  rotate_left
  · intro w'
    go_simp
    with_reducible rfl
  rotate_left
  · simp only [Act.put, s1_, s2_, s3_, i64_w, i32_w]
    rfl
  refine take_ (i := 9) (N := some 81) (v := ?_) (a' := ?_) #[true, true, true, true, true, true, true, true, true, true, false, false, false, false, false, false, false] rfl rfl (by kernel_rfl) (fun _ _ _ h => h) (Or.inl ⟨by rfl, ?_⟩) hHeld ?_ ?_
  rotate_left
  · intro w' s0
    obtain ⟨d0, d1, d2, d3⟩ := s0
    go_simp
    with_reducible rfl
  rotate_left
  · simp only [Act.put, s1_, s2_, s3_, i64_w, i32_w]
    rfl
  refine pure_ (i := 10) (N := some 82) (v := ?_) (a' := ?_) #[true, true, true, true, true, true, true, true, true, true, true, false, false, false, false, false, false] rfl rfl (by kernel_rfl) (fun _ _ _ h => h) (Or.inl ⟨by rfl, ?_⟩) ?_ ?_
  rotate_left
  · intro w'
    go_simp
    with_reducible rfl
  rotate_left
  · simp only [Act.put, s1_, s2_, s3_, i64_w, i32_w]
    rfl
  refine pure_ (i := 11) (N := some 83) (v := ?_) (a' := ?_) #[true, true, true, true, true, true, true, true, true, true, true, true, false, false, false, false, false] rfl rfl (by kernel_rfl) (fun _ _ _ h => h) (Or.inl ⟨by rfl, ?_⟩) ?_ ?_
  rotate_left
  · intro w'
    go_simp
    with_reducible rfl
  rotate_left
  · simp only [Act.put, s1_, s2_, s3_, i64_w, i32_w]
    rfl
  refine take_ (i := 12) (N := some 84) (v := ?_) (a' := ?_) #[true, true, true, true, true, true, true, true, true, true, true, true, true, false, false, false, false] rfl rfl (by kernel_rfl) (fun _ _ _ h => h) (Or.inl ⟨by rfl, ?_⟩) hHeld ?_ ?_
  rotate_left
  · intro w' s0
    obtain ⟨d0, d1, d2, d3⟩ := s0
    go_simp
    with_reducible rfl
  rotate_left
  · simp only [Act.put, s1_, s2_, s3_, i64_w, i32_w]
    rfl
  refine one_ (i := 13) (N := some 85) #[true, true, true, true, true, true, true, true, true, true, true, true, true, true, false, false, false] rfl rfl (by kernel_rfl) (by decide) (fun K hK => ?_)
  refine goes_ Try.func67 (by kernel_rfl) rfl #[.int .u64 x3, .int .u64 x2, .int .u64 x1, .int .u64 x0] (by rfl) rfl rfl (by (try simp only [List.map_toArray, List.map_cons, List.map_nil]); rfl) ?_
  refine (new256 x3 x2 x1 x0 w1).mono ?_
  rintro e w2 ⟨rfl, hb_⟩
  refine ⟨_, rfl, ?_⟩
  have B5 := blk_below B4 hb_
  have e0 := keep hb_ hHeld.1
  have e1 := keep hb_ hHeld.2.1
  have e2 := keep hb_ hHeld.2.2.1
  have e3 := keep hb_ hHeld.2.2.2
  have HB := Lib.hid (hB0.trans (hb_.mono hB0.size))
  refine hK.out _ _ ⟨e0, e1, e2, e3⟩ (fun hHeld => ?_)
  clear hK K hb_
  refine norm_ (a' := ?_) ?_ ?_
  rotate_left
  · show Act.put _ (some 85) _ = _
    simp only [Act.put, s1_, s2_, s3_]
    rfl
  refine pure_ (i := 14) (N := some 86) (v := ?_) (a' := ?_) #[true, true, true, true, true, true, true, true, true, true, true, true, true, true, true, false, false] rfl rfl (by kernel_rfl) (fun _ _ _ h => h) (Or.inl ⟨by rfl, ?_⟩) ?_ ?_
  rotate_left
  · intro w'
    go_simp
    with_reducible rfl
  rotate_left
  · simp only [Act.put, s1_, s2_, s3_, i64_w, i32_w]
    rfl
  refine one_ (i := 15) (N := none) #[true, true, true, true, true, true, true, true, true, true, true, true, true, true, true, true, false] rfl rfl (by kernel_rfl) (by decide) (fun K hK => ?_)
  obtain ⟨wF, hwF⟩ : ∃ wF, wF = (((((((((w2.setCell ⟨w.heap.size, 0, none⟩ (.int .i64 256)).setCell ⟨w.heap.size, 1, none⟩ (.int .i32 0)).setCell ⟨w.heap.size, 2, none⟩ (.int .i64 0)).setCell ⟨w.heap.size, 3, none⟩ (.int .u64 0)).setCell ⟨w.heap.size, 4, none⟩ (.int .i64 0)).setCell ⟨w.heap.size, 5, none⟩ (.int .u64 x0)).setCell ⟨w.heap.size, 6, none⟩ (.int .u64 x1)).setCell ⟨w.heap.size, 7, none⟩ (.int .u64 x2)).setCell ⟨w.heap.size, 8, none⟩ (.int .u64 x3)) := ⟨_, rfl⟩
  have q0 := far9 hne0 e0 (.int .i64 256) (.int .i32 0) (.int .i64 0) (.int .u64 0) (.int .i64 0) (.int .u64 x0) (.int .u64 x1) (.int .u64 x2) (.int .u64 x3)
  have q1 := far9 (a := ⟨ad.block, ad.off + 1, none⟩) hne0 e1 (.int .i64 256) (.int .i32 0) (.int .i64 0) (.int .u64 0) (.int .i64 0) (.int .u64 x0) (.int .u64 x1) (.int .u64 x2) (.int .u64 x3)
  have q2 := far9 (a := ⟨ad.block, ad.off + 2, none⟩) hne0 e2 (.int .i64 256) (.int .i32 0) (.int .i64 0) (.int .u64 0) (.int .i64 0) (.int .u64 x0) (.int .u64 x1) (.int .u64 x2) (.int .u64 x3)
  have q3 := far9 (a := ⟨ad.block, ad.off + 3, none⟩) hne0 e3 (.int .i64 256) (.int .i32 0) (.int .i64 0) (.int .u64 0) (.int .i64 0) (.int .u64 x0) (.int .u64 x1) (.int .u64 x2) (.int .u64 x3)
  have BF := put9 B5 (.int .i64 256) (.int .i32 0) (.int .i64 0) (.int .u64 0) (.int .i64 0) (.int .u64 x0) (.int .u64 x1) (.int .u64 x2) (.int .u64 x3)
  have HB2 := Lib.hid (below9 HB.out (Nat.le_refl _) (.int .i64 256) (.int .i32 0) (.int .i64 0) (.int .u64 0) (.int .i64 0) (.int .u64 x0) (.int .u64 x1) (.int .u64 x2) (.int .u64 x3))
  rw [← hwF] at q0 q1 q2 q3 BF HB2
  have z0 : w2.cell? ⟨w.heap.size, 0, none⟩ = some (.int .i64 0) := (blk_cell B5 0).trans rfl
  have y0 := blk_frozen B5 0
  have z1 : w2.cell? ⟨w.heap.size, 1, none⟩ = some (.int .i32 0) := (blk_cell B5 1).trans rfl
  have y1 := blk_frozen B5 1
  have z2 : w2.cell? ⟨w.heap.size, 2, none⟩ = some (.int .i64 0) := (blk_cell B5 2).trans rfl
  have y2 := blk_frozen B5 2
  have z3 : w2.cell? ⟨w.heap.size, 3, none⟩ = some (.int .u64 0) := (blk_cell B5 3).trans rfl
  have y3 := blk_frozen B5 3
  have z4 : w2.cell? ⟨w.heap.size, 4, none⟩ = some (.int .i64 0) := (blk_cell B5 4).trans rfl
  have y4 := blk_frozen B5 4
  have z5 : w2.cell? ⟨w.heap.size, 5, none⟩ = some (.int .u64 0) := (blk_cell B5 5).trans rfl
  have y5 := blk_frozen B5 5
  have z6 : w2.cell? ⟨w.heap.size, 6, none⟩ = some (.int .u64 0) := (blk_cell B5 6).trans rfl
  have y6 := blk_frozen B5 6
  have z7 : w2.cell? ⟨w.heap.size, 7, none⟩ = some (.int .u64 0) := (blk_cell B5 7).trans rfl
  have y7 := blk_frozen B5 7
  have z8 : w2.cell? ⟨w.heap.size, 8, none⟩ = some (.int .u64 0) := (blk_cell B5 8).trans rfl
  have y8 := blk_frozen B5 8
  refine skip_ (w1 := wF) (by rfl) rfl ?_ ?_
  · clear q0 q1 q2 q3 BF HB2 e0 e1 e2 e3
    have HF := Lib.hid hwF
    clear hwF
    go_simp
    rw [HF.out]
  clear hwF
  clear z0 y0 z1 y1 z2 y2 z3 y3 z4 y4 z5 y5 z6 y6 z7 y7 z8 y8 e0 e1 e2 e3 HB B5
  refine hK.out _ _ ⟨q0, q1, q2, q3⟩ (fun hHeld => ?_)
  clear hK K q0 q1 q2 q3 hHeld
  refine pure_ (i := 16) (N := some 5) (v := ?_) (a' := ?_) #[true, true, true, true, true, true, true, true, true, true, true, true, true, true, true, true, true] rfl rfl (by kernel_rfl) (fun _ _ _ h => h) (Or.inl ⟨by rfl, ?_⟩) ?_ ?_
  rotate_left
  · intro w'
    go_simp
    with_reducible rfl
  rotate_left
  · simp only [Act.put, s1_, s2_, s3_, i64_w, i32_w]
    rfl
  refine done_ (by kernel_rfl) ?_
  have z0 : wF.cell? ⟨w.heap.size, 0, none⟩ = some (.int .i64 256) := (blk_cell BF 0).trans rfl
  have z1 : wF.cell? ⟨w.heap.size, 1, none⟩ = some (.int .i32 0) := (blk_cell BF 1).trans rfl
  have z2 : wF.cell? ⟨w.heap.size, 2, none⟩ = some (.int .i64 0) := (blk_cell BF 2).trans rfl
  have z3 : wF.cell? ⟨w.heap.size, 3, none⟩ = some (.int .u64 0) := (blk_cell BF 3).trans rfl
  have z4 : wF.cell? ⟨w.heap.size, 4, none⟩ = some (.int .i64 0) := (blk_cell BF 4).trans rfl
  have z5 : wF.cell? ⟨w.heap.size, 5, none⟩ = some (.int .u64 x0) := (blk_cell BF 5).trans rfl
  have z6 : wF.cell? ⟨w.heap.size, 6, none⟩ = some (.int .u64 x1) := (blk_cell BF 6).trans rfl
  have z7 : wF.cell? ⟨w.heap.size, 7, none⟩ = some (.int .u64 x2) := (blk_cell BF 7).trans rfl
  have z8 : wF.cell? ⟨w.heap.size, 8, none⟩ = some (.int .u64 x3) := (blk_cell BF 8).trans rfl
  go_wp2_with (fail)
  refine bodyPost_ret (v := .tuple #[decA 256 0 0 0 0 x0 x1 x2 x3, .bool true]) (by simp [results, Try.results23, go_sem, z0, z1, z2, z3, z4, z5, z6, z7, z8]) rfl ⟨rfl, HB2.out⟩
theorem F_block4 {W : World} {g t : Nat} {a b c d : Int} {ok : Nat → Prop} (h : W.heap[g]? = some (.cells #[.int .u64 a, .int .u64 b, .int .u64 c, .int .u64 d] t (0, 0))) (hok : ok g) :
    Kd.F (Kd.int .u64) W ok (some ⟨g, 0, none⟩) 4 [a, b, c, d] := by
  intro W' hW'
  have h' : W'.heap[g]? = some (.cells #[.int .u64 a, .int .u64 b, .int .u64 c, .int .u64 d] t (0, 0)) := (hW' g hok (blk_lt h)).trans h
  have g0 : W'.cell? ⟨g, 0, none⟩ = some (.int .u64 a) := (blk_cell h' 0).trans rfl
  have g1 : W'.cell? ⟨g, 1, none⟩ = some (.int .u64 b) := (blk_cell h' 1).trans rfl
  have g2 : W'.cell? ⟨g, 2, none⟩ = some (.int .u64 c) := (blk_cell h' 2).trans rfl
  have g3 : W'.cell? ⟨g, 3, none⟩ = some (.int .u64 d) := (blk_cell h' 3).trans rfl
  refine ⟨rfl, by omega, fun _ => ⟨_, rfl, fun j p hj => ⟨[.int .u64 p], rfl, rfl, fun i u hu => ?_⟩⟩⟩
  obtain rfl : i = 0 := by
    cases i with
    | zero => rfl
    | succ i => simp at hu
  simp only [List.getElem?_cons_zero, Option.some.injEq] at hu
  subst hu
  match j, hj with
  | 0, hj => simp only [List.getElem?_cons_zero, Option.some.injEq] at hj; subst hj; exact g0
  | 1, hj => simp only [List.getElem?_cons_zero, List.getElem?_cons_succ, Option.some.injEq] at hj; subst hj; exact g1
  | 2, hj => simp only [List.getElem?_cons_zero, List.getElem?_cons_succ, Option.some.injEq] at hj; subst hj; exact g2
  | 3, hj => simp only [List.getElem?_cons_zero, List.getElem?_cons_succ, Option.some.injEq] at hj; subst hj; exact g3
  | j + 4, hj => simp at hj
set_option maxHeartbeats 1000000 in
theorem words128 (lo hi d0 d1 d2 d3 d4 d5 : Int) (w : World) : Calls Try.prog 26 #[decA 128 d0 d1 lo hi d2 d3 d4 d5] w fun e w' => ∃ v, e = .returned v ∧ Kd.V (Kd.int .u64) 25 w' w.heap.size (fun k_ => w.heap.size ≤ k_) v [lo, IntKind.u64.wrap hi] ∧ Below w.heap.size w w' := by
  go_enter Try.func26, Try.ntmps26
  go_wp2_with (fail)
  refine wp_at ?_
  intro w0 hw0
  have B0 : w0.drew.heap[w.heap.size]? = some (.cells #[.int .i64 128, .int .i32 d0, .int .i64 d1, .int .u64 lo, .int .i64 hi, .int .u64 d2, .int .u64 d3, .int .u64 d4, .int .u64 d5] 62 (0, 0)) := by rw [hw0]; exact blk_drew_ (blk_new_at rfl)
  have d0 : w0.cell? ⟨w.heap.size, 3, none⟩ = some (.int .u64 lo) := (blk_cell B0 3).trans rfl
  have d1 : w0.cell? ⟨w.heap.size, 4, none⟩ = some (.int .i64 hi) := (blk_cell B0 4).trans rfl
  have hB0 : Below w.heap.size w w0.drew := by rw [hw0]; exact below_drew (below_alloc (Below.refl _ _) _)
  clear hw0 B0
  go_region_with (first | (go_at_call 68; refine (low_ hi lo _).mono ?_; rintro e w1 ⟨rfl, hb1⟩; have e0 := keep hb1 d0; have e1 := keep hb1 d1; have HB1 := Lib.hid (hB0.trans (hb1.mono hB0.size)); clear hb1) | (go_at_call 69; refine (high_ hi lo _).mono ?_; rintro e w2 ⟨rfl, hb2⟩; have HB2 := Lib.hid (HB1.out.trans (hb2.mono HB1.out.size)); clear hb2))
  all_goals go_wp2_with (fail)
  all_goals
    go_ret
    have hF := fresh_ (W := w2) (base := w.heap.size) (e := 25) (ok := fun k_ => w.heap.size ≤ k_) [lo, IntKind.u64.wrap hi] HB2.out.size (by simp [maxLen]) HB2.out.size
    simp only [List.map_cons, List.map_nil, List.length_cons, List.length_nil] at hF
    exact ⟨.slice (some ⟨w2.heap.size, 0, none⟩) 2 2, by rfl, Kd.R_V (by simpa using hF), below_alloc HB2.out _⟩
set_option maxHeartbeats 1000000 in
theorem words256 (d0 d1 d2 d3 a b c d : Int) (w : World) : Calls Try.prog 26 #[decA 256 d0 d1 d2 d3 a b c d] w fun e w' => ∃ v, e = .returned v ∧ Kd.V (Kd.int .u64) 25 w' w.heap.size (fun k_ => w.heap.size ≤ k_) v [a, b, c, d] ∧ Below w.heap.size w w' := by
  go_enter Try.func26, Try.ntmps26
  go_wp2_with (go_at_call 70; refine (array_ a b c d _).mono ?_; rintro e w1 ⟨rfl, hb1⟩)
  go_ret
  have hb := (below_alloc (Below.refl w.heap.size w) _).trans (hb1.mono (by simp))
  have B0 : (w1.alloc (Obj.cells #[.int .u64 a, .int .u64 b, .int .u64 c, .int .u64 d] 58)).heap[w1.heap.size]? = some (.cells #[.int .u64 a, .int .u64 b, .int .u64 c, .int .u64 d] 58 (0, 0)) := blk_new_at rfl
  exact ⟨_, rfl, Kd.V_mk (xs := [a, b, c, d]) (Nat.le_refl 4) (F_block4 B0 hb.size), below_alloc hb _⟩
end Go.Proofs.Ytiiicmfobljnaaa.V
