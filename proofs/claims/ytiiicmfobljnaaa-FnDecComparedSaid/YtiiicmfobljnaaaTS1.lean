/- decimal256's difference. -/
import Derived.Test.YtiiicmfobljnaaaTS0
namespace Go.Proofs.Ytiiicmfobljnaaa.V
open Go.RowKit Go.Proofs.YtiiicmfobljnaaaW.PrintWords Go.Proofs.YtiiicmfobljnaaaW.PrintLast Go.Proofs.YtiiicmfobljnaaaW.PrintMore
set_option linter.unusedVariables false
set_option maxHeartbeats 8000000 in
set_option maxRecDepth 100000 in
theorem sub256 (a0 a1 a2 a3 b0 b1 b2 b3 n0 n1 n2 n3 s0 s1 s2 s3 : Int) (w : World)
    (hneg : ∀ w, Calls Try.prog 78 #[d256A b0 b1 b2 b3] w fun e w' => e = .returned (d256A n0 n1 n2 n3) ∧ Below w.heap.size w w')
    (hadd : ∀ w, Calls Try.prog 48 #[d256A a0 a1 a2 a3, d256A n0 n1 n2 n3] w fun e w' => e = .returned (d256A s0 s1 s2 s3) ∧ Below w.heap.size w w') :
    Calls Try.prog 44 #[d256A a0 a1 a2 a3, d256A b0 b1 b2 b3] w fun e w' => e = .returned (d256A s0 s1 s2 s3) ∧ Below w.heap.size w w' := by
  go_enter Try.func44, Try.ntmps44
  go_wp2_with (fail)
  refine wp_at ?_
  intro w0 hw0
  have BA_0 : w0.drew.heap[w.heap.size]? = some (.cells #[.int .u64 a0, .int .u64 a1, .int .u64 a2, .int .u64 a3] 60 (0, 0)) := by
    rw [hw0]; repeat (first | (refine blk_new_at ?_; solve | simp) | refine blk_alloc_ ?_ | refine blk_drew_ ?_)
  have BB_0 : w0.drew.heap[w.heap.size + 1]? = some (.cells #[.int .u64 b0, .int .u64 b1, .int .u64 b2, .int .u64 b3] 60 (0, 0)) := by
    rw [hw0]; repeat (first | (refine blk_new_at ?_; solve | simp) | refine blk_alloc_ ?_ | refine blk_drew_ ?_)
  have BZ_0 : w0.drew.heap[w.heap.size + 1 + 1]? = some (.cells #[.int .u64 0, .int .u64 0, .int .u64 0, .int .u64 0] 60 (0, 0)) := by
    rw [hw0]; repeat (first | (refine blk_new_at ?_; solve | simp) | refine blk_alloc_ ?_ | refine blk_drew_ ?_)
  have hb0 : Below w.heap.size w w0.drew := by rw [hw0]; exact below_drew (below_alloc (below_alloc (below_alloc (Below.refl _ _) _) _) _)
  clear hw0
  refine start_ (n := 5) (S := fun w' => w'.heap[w.heap.size]? = some (.cells #[.int .u64 a0, .int .u64 a1, .int .u64 a2, .int .u64 a3] 60 (0, 0)) ∧ w'.heap[w.heap.size + 1]? = some (.cells #[.int .u64 b0, .int .u64 b1, .int .u64 b2, .int .u64 b3] 60 (0, 0))) (ds := []) #[false, false, false, false, false] (by kernel_rfl) rfl rfl ⟨BA_0, BB_0⟩ (fun hHeld => ?_)
  generalize w0.drew = w1 at *
  refine take_ (i := 0) (N := some 5) (v := ?_) (a' := ?_) #[true, false, false, false, false] rfl rfl (by kernel_rfl) (fun _ _ _ h => h) (Or.inl ⟨by rfl, ?_⟩) hHeld ?_ ?_
  rotate_left
  · intro w' s0
    have d0 : w'.cell? ⟨w.heap.size, 0, none⟩ = some (.int .u64 a0) := (blk_cell s0.1 0).trans rfl
    have d1 : w'.cell? ⟨w.heap.size, 1, none⟩ = some (.int .u64 a1) := (blk_cell s0.1 1).trans rfl
    have d2 : w'.cell? ⟨w.heap.size, 2, none⟩ = some (.int .u64 a2) := (blk_cell s0.1 2).trans rfl
    have d3 : w'.cell? ⟨w.heap.size, 3, none⟩ = some (.int .u64 a3) := (blk_cell s0.1 3).trans rfl
    clear s0
    go_simp
    with_reducible rfl
  rotate_left
  · simp only [Act.put, s1_, s2_, s3_]
    rfl
  refine take_ (i := 1) (N := some 6) (v := ?_) (a' := ?_) #[true, true, false, false, false] rfl rfl (by kernel_rfl) (fun _ _ _ h => h) (Or.inl ⟨by rfl, ?_⟩) hHeld ?_ ?_
  rotate_left
  · intro w' s0
    have d0 : w'.cell? ⟨w.heap.size + 1, 0, none⟩ = some (.int .u64 b0) := (blk_cell s0.2 0).trans rfl
    have d1 : w'.cell? ⟨w.heap.size + 1, 1, none⟩ = some (.int .u64 b1) := (blk_cell s0.2 1).trans rfl
    have d2 : w'.cell? ⟨w.heap.size + 1, 2, none⟩ = some (.int .u64 b2) := (blk_cell s0.2 2).trans rfl
    have d3 : w'.cell? ⟨w.heap.size + 1, 3, none⟩ = some (.int .u64 b3) := (blk_cell s0.2 3).trans rfl
    clear s0
    go_simp
    with_reducible rfl
  rotate_left
  · simp only [Act.put, s1_, s2_, s3_]
    rfl
  refine one_ (i := 2) (N := some 7) #[true, true, true, false, false] rfl rfl (by kernel_rfl) (by decide) (fun K hK => ?_)
  refine goes_ Try.func78 (by kernel_rfl) rfl #[d256A b0 b1 b2 b3] (by rfl) rfl rfl (by (try simp only [List.map_toArray, List.map_cons, List.map_nil]); rfl) ?_
  refine (hneg w1).mono ?_
  rintro e w2 ⟨rfl, hb_⟩
  refine ⟨_, rfl, ?_⟩
  have BA_1 := blk_below BA_0 hb_
  have BB_1 := blk_below BB_0 hb_
  have BZ_1 := blk_below BZ_0 hb_
  have hb1 := hb0.trans (hb_.mono hb0.size)
  refine hK.out _ _ ⟨BA_1, BB_1⟩ (fun hHeld => ?_)
  clear hK K hb_
  refine norm_ (a' := ?_) ?_ ?_
  rotate_left
  · show Act.put _ (some 7) _ = _
    simp only [Act.put, s1_, s2_, s3_]
    rfl
  refine one_ (i := 3) (N := some 8) #[true, true, true, true, false] rfl rfl (by kernel_rfl) (by decide) (fun K hK => ?_)
  refine goes_ Try.func48 (by kernel_rfl) rfl #[d256A a0 a1 a2 a3, d256A n0 n1 n2 n3] (by rfl) rfl rfl (by (try simp only [List.map_toArray, List.map_cons, List.map_nil]); rfl) ?_
  refine (hadd w2).mono ?_
  rintro e w3 ⟨rfl, hb_⟩
  refine ⟨_, rfl, ?_⟩
  have BA_2 := blk_below BA_1 hb_
  have BB_2 := blk_below BB_1 hb_
  have BZ_2 := blk_below BZ_1 hb_
  have hb2 := hb1.trans (hb_.mono hb1.size)
  refine hK.out _ _ ⟨BA_2, BB_2⟩ (fun hHeld => ?_)
  clear hK K hb_
  refine norm_ (a' := ?_) ?_ ?_
  rotate_left
  · show Act.put _ (some 8) _ = _
    simp only [Act.put, s1_, s2_, s3_]
    rfl
  refine one_ (i := 4) (N := none) #[true, true, true, true, true] rfl rfl (by kernel_rfl) (by decide) (fun K hK => ?_)
  have hs0 : w3.cell? ⟨w.heap.size + 1 + 1, 0, none⟩ = some (.int .u64 0) := (blk_cell BZ_2 0).trans rfl
  have hf0 := blk_frozen BZ_2 0
  have hs1 : w3.cell? ⟨w.heap.size + 1 + 1, 1, none⟩ = some (.int .u64 0) := (blk_cell BZ_2 1).trans rfl
  have hf1 := blk_frozen BZ_2 1
  have hs2 : w3.cell? ⟨w.heap.size + 1 + 1, 2, none⟩ = some (.int .u64 0) := (blk_cell BZ_2 2).trans rfl
  have hf2 := blk_frozen BZ_2 2
  have hs3 : w3.cell? ⟨w.heap.size + 1 + 1, 3, none⟩ = some (.int .u64 0) := (blk_cell BZ_2 3).trans rfl
  have hf3 := blk_frozen BZ_2 3
  refine skip_ (w1 := ?_) (by rfl) rfl ?_ ?_
  rotate_left
  · go_simp
    rfl
  refine hK.out _ _ ⟨by repeat (first | exact BA_2 | (refine blk_other_ ?_ ?_; · omega)), by repeat (first | exact BB_2 | (refine blk_other_ ?_ ?_; · omega))⟩ (fun hHeld => ?_)
  clear hK K hHeld
  refine done_ (by kernel_rfl) ?_
  go_wp2_with (fail)
  refine bodyPost_ret (v := d256A s0 s1 s2 s3) (by simp [results, Try.results44, go_sem, hs0, hs1, hs2, hs3]) rfl ⟨rfl, ?_⟩
  repeat (first | refine Below.setCell ?_ (by simp; try omega) _)
  exact hb2
end Go.Proofs.Ytiiicmfobljnaaa.V
