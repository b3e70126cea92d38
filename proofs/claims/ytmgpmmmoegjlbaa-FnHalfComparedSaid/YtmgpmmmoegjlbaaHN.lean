/- Cmp of halves; impl.HalfCompared. -/
import Derived.Test.YtmgpmmmoegjlbaaHM
import Derived.Test.YtmgpmmmoegjlbaaK1
namespace Go.Proofs.Ytmgpmmmoegjlbaa.V
open Go.RowKit Go.Proofs.YtmgpmmmoegjlbaaW.PrintWords Go.Proofs.YtmgpmmmoegjlbaaW.PrintLast Go.Proofs.YtmgpmmmoegjlbaaW.PrintMore
set_option linter.unusedSimpArgs false
set_option linter.unusedVariables false
abbrev s1_ := @List.setIfInBounds_toArray
abbrev s2_ := @List.set_cons_zero
abbrev s3_ := @List.set_cons_succ
theorem blk_new_at {W : World} {g : Nat} {cs : Array Value} {t : TypeId} (h : g = W.heap.size) : (W.alloc (.cells cs t)).heap[g]? = some (.cells cs t (0, 0)) := by subst h; exact blk_new W _
theorem blk_alloc_ {W : World} {g : Nat} {o p : Obj} (h : W.heap[g]? = some o) : (W.alloc p).heap[g]? = some o := blk_below h (below_alloc (Below.refl _ _) _)
theorem blk_drew_ {W : World} {g : Nat} {o : Obj} (h : W.heap[g]? = some o) : W.drew.heap[g]? = some o := h
theorem blk_put_at {W : World} {g : Nat} {t : TypeId} {cs cs' : Array Value} {i : Nat} {u : Value} (h : W.heap[g]? = some (.cells cs t (0, 0))) (e : cs.setIfInBounds i u = cs') : (W.setCell ⟨g, i, none⟩ u).heap[g]? = some (.cells cs' t (0, 0)) := blk_put h i u e
theorem blk_other_ {W : World} {g b i : Nat} {o : Obj} {u : Value} (hne : g ≠ b) (h : W.heap[g]? = some o) : (W.setCell ⟨b, i, none⟩ u).heap[g]? = some o := (heap_setCell_other W ⟨b, i, none⟩ g u hne).trans h
theorem put6 {W : World} {g : Nat} {t : TypeId} {u0 u1 u2 u3 u4 u5 : Value} (h : W.heap[g]? = some (.cells #[u0, u1, u2, u3, u4, u5] t (0, 0))) (v0 v1 v2 v3 v4 v5 : Value) :
    ((((((W.setCell ⟨g, 0, none⟩ v0).setCell ⟨g, 1, none⟩ v1).setCell ⟨g, 2, none⟩ v2).setCell ⟨g, 3, none⟩ v3).setCell ⟨g, 4, none⟩ v4).setCell ⟨g, 5, none⟩ v5).heap[g]? = some (.cells #[v0, v1, v2, v3, v4, v5] t (0, 0)) := by
  have h0 := blk_put_at (cs' := #[v0, u1, u2, u3, u4, u5]) (i := 0) (u := v0) h rfl
  have h1 := blk_put_at (cs' := #[v0, v1, u2, u3, u4, u5]) (i := 1) (u := v1) h0 rfl
  have h2 := blk_put_at (cs' := #[v0, v1, v2, u3, u4, u5]) (i := 2) (u := v2) h1 rfl
  have h3 := blk_put_at (cs' := #[v0, v1, v2, v3, u4, u5]) (i := 3) (u := v3) h2 rfl
  have h4 := blk_put_at (cs' := #[v0, v1, v2, v3, v4, u5]) (i := 4) (u := v4) h3 rfl
  exact blk_put_at (cs' := #[v0, v1, v2, v3, v4, v5]) (i := 5) (u := v5) h4 rfl
theorem bel6 {w W : World} {g : Nat} (h : Below w.heap.size w W) (hg : w.heap.size ≤ g) (v0 v1 v2 v3 v4 v5 : Value) :
    Below w.heap.size w ((((((W.setCell ⟨g, 0, none⟩ v0).setCell ⟨g, 1, none⟩ v1).setCell ⟨g, 2, none⟩ v2).setCell ⟨g, 3, none⟩ v3).setCell ⟨g, 4, none⟩ v4).setCell ⟨g, 5, none⟩ v5) :=
  below_set (below_set (below_set (below_set (below_set (below_set h hg) hg) hg) hg) hg) hg
theorem callsAt {P : Program} {f : FuncId} {a : Array Value} {W : World} {Q : Ending → World → Prop} (h : ∀ w0, w0 = W → Calls P f a w0 Q) : Calls P f a W Q := h _ rfl
/-- -1, 0, 1. -/
def oi (o : Ordering) : Int := match o with | .lt => -1 | .eq => 0 | .gt => 1
theorem cmp_ (A B : Int) (o : Ordering) (w : World) (hg : ∀ w, Calls Try.prog 21 #[.agg #[.int .u16 A], .agg #[.int .u16 B]] w fun x w' => x = .returned (.bool (o == .gt)) ∧ Below w.heap.size w w')
    (hl : ∀ w, Calls Try.prog 19 #[.agg #[.int .u16 A], .agg #[.int .u16 B]] w fun x w' => x = .returned (.bool (o == .lt)) ∧ Below w.heap.size w w') :
    Calls Try.prog 17 #[.agg #[.int .u16 A], .agg #[.int .u16 B]] w fun x w' => x = .returned (.int .i64 (oi o)) ∧ Below w.heap.size w w' := by
  go_enter Try.func17, Try.ntmps17
  go_wp2_with (go_at_call 21; fail)
  refine callsAt ?_
  intro w0 hw0
  have d0 : w0.drew.cell? ⟨w.heap.size, 0, none⟩ = some (.int .u16 A) := by rw [hw0]; exact box0 _ _ _ _
  have d1 : w0.drew.cell? ⟨w.heap.size + 1, 0, none⟩ = some (.int .u16 B) := by rw [hw0]; exact box1 _ _ _ _
  have hb0 : Below w.heap.size w w0 := by rw [hw0]; exact ((Below.refl _ _).alloc (Nat.le_refl _) _).alloc (by simp) _
  clear hw0
  have d0' : w0.cell? ⟨w.heap.size, 0, none⟩ = some (.int .u16 A) := d0
  have d1' : w0.cell? ⟨w.heap.size + 1, 0, none⟩ = some (.int .u16 B) := d1
  clear d0 d1
  refine (hg w0).mono ?_
  rintro x w1 ⟨rfl, hb1⟩
  have e0 := keepC hb1 d0'
  have e1 := keepC hb1 d1'
  have HB := Lib.hid (hb0.trans (hb1.mono hb0.size))
  clear hb0 hb1 d0' d1'
  cases o
  · go_wp2_with (go_at_call 19; refine (hl _).mono ?_; rintro x w2 ⟨rfl, hb2⟩)
    go_ret
    exact ⟨rfl, HB.out.trans (hb2.mono HB.out.size)⟩
  · go_wp2_with (go_at_call 19; refine (hl _).mono ?_; rintro x w2 ⟨rfl, hb2⟩)
    go_ret
    exact ⟨rfl, HB.out.trans (hb2.mono HB.out.size)⟩
  · go_wp2_with (go_at_call 19; refine (hl _).mono ?_; rintro x w2 ⟨rfl, hb2⟩)
    go_ret
    exact ⟨rfl, HB.out⟩
set_option maxHeartbeats 2000000 in
set_option maxRecDepth 100000 in
theorem compared_ (A B c : Int) (b1 b2 b3 b4 b5 : Bool) (w : World)
    (hc : ∀ w, Calls Try.prog 17 #[.agg #[.int .u16 A], .agg #[.int .u16 B]] w fun x w' => x = .returned (.int .i64 c) ∧ Below w.heap.size w w')
    (h1 : ∀ w, Calls Try.prog 18 #[.agg #[.int .u16 A], .agg #[.int .u16 B]] w fun x w' => x = .returned (.bool b1) ∧ Below w.heap.size w w')
    (h2 : ∀ w, Calls Try.prog 19 #[.agg #[.int .u16 A], .agg #[.int .u16 B]] w fun x w' => x = .returned (.bool b2) ∧ Below w.heap.size w w')
    (h3 : ∀ w, Calls Try.prog 20 #[.agg #[.int .u16 A], .agg #[.int .u16 B]] w fun x w' => x = .returned (.bool b3) ∧ Below w.heap.size w w')
    (h4 : ∀ w, Calls Try.prog 21 #[.agg #[.int .u16 A], .agg #[.int .u16 B]] w fun x w' => x = .returned (.bool b4) ∧ Below w.heap.size w w')
    (h5 : ∀ w, Calls Try.prog 22 #[.agg #[.int .u16 A], .agg #[.int .u16 B]] w fun x w' => x = .returned (.bool b5) ∧ Below w.heap.size w w') :
    Calls Try.prog 9 #[.int .u16 A, .int .u16 B] w fun x w' => x = .returned (.agg #[.int .i64 c, .bool b1, .bool b2, .bool b3, .bool b4, .bool b5]) ∧ Below w.heap.size w w' := by
  go_enter Try.func9, Try.ntmps9
  go_wp2_with (go_at_call 12; fail)
  refine callsAt ?_
  intro w0 hw0
  have BC0 : w0.heap[w.heap.size]? = some (.cells #[.int .i64 0, .bool false, .bool false, .bool false, .bool false, .bool false] 30 (0, 0)) := by rw [hw0]; exact blk_new_at rfl
  have hb0 : Below w.heap.size w w0 := by rw [hw0]; exact below_alloc (Below.refl _ _) _
  clear hw0
  refine (frombits_ _ _).mono ?_
  rintro x w1 ⟨rfl, hb1⟩
  have BC1 := blk_below BC0 hb1
  have hb1' := hb0.trans (hb1.mono hb0.size)
  have l1 := blk_lt BC1
  clear BC0 hb0 hb1
  go_wp2_with (go_at_call 12; refine (frombits_ _ _).mono ?_; rintro x w2 ⟨rfl, hb2⟩)
  have BC2 := blk_below BC1 hb2
  have hb2' := hb1'.trans (hb2.mono hb1'.size)
  have l2 := blk_lt BC2
  clear BC1 hb1' hb2 l1
  refine wpAt ?_
  intro u0 hu0
  have BX0 : u0.drew.heap[w2.heap.size]? = some (.cells #[.int .u16 A] 36 (0, 0)) := by rw [hu0]; exact blk_drew_ (blk_alloc_ (blk_new_at rfl))
  have BY0 : u0.drew.heap[w2.heap.size + 1]? = some (.cells #[.int .u16 B] 36 (0, 0)) := by rw [hu0]; exact blk_drew_ (blk_new_at (by simp))
  have BC0 : u0.drew.heap[w.heap.size]? = some (.cells #[.int .i64 0, .bool false, .bool false, .bool false, .bool false, .bool false] 30 (0, 0)) := by rw [hu0]; exact blk_drew_ (blk_alloc_ (blk_alloc_ BC2))
  have hc0 : Below w.heap.size w u0.drew := by rw [hu0]; exact below_drew (below_alloc (below_alloc hb2' _) _)
  clear hu0 BC2 hb2'
  refine start_ (n := 20) (S := fun w' => w'.heap[w2.heap.size]? = some (.cells #[.int .u16 A] 36 (0, 0)) ∧ w'.heap[w2.heap.size + 1]? = some (.cells #[.int .u16 B] 36 (0, 0))) (ds := []) #[false, false, false, false, false, false, false, false, false, false, false, false, false, false, false, false, false, false, false, false] (by kernel_rfl) rfl rfl ⟨BX0, BY0⟩ (fun hHeld => ?_)
  generalize u0.drew = u1 at *
  refine take_ (i := 0) (N := some 11) (v := ?_) (a' := ?_) #[true, false, false, false, false, false, false, false, false, false, false, false, false, false, false, false, false, false, false, false] rfl rfl (by kernel_rfl) (fun _ _ _ h => h) (Or.inl ⟨by rfl, ?_⟩) hHeld ?_ ?_
  rotate_left
  · intro w' s0
    have d0 : w'.cell? ⟨w2.heap.size, 0, none⟩ = some (.int .u16 A) := (blk_cell s0.1 0).trans rfl
    clear s0
    go_simp
    with_reducible rfl
  rotate_left
  · simp only [Act.put, s1_, s2_, s3_]
    rfl
  refine take_ (i := 3) (N := some 14) (v := ?_) (a' := ?_) #[true, false, false, true, false, false, false, false, false, false, false, false, false, false, false, false, false, false, false, false] rfl rfl (by kernel_rfl) (fun _ _ _ h => h) (Or.inl ⟨by rfl, ?_⟩) hHeld ?_ ?_
  rotate_left
  · intro w' s0
    have d0 : w'.cell? ⟨w2.heap.size, 0, none⟩ = some (.int .u16 A) := (blk_cell s0.1 0).trans rfl
    clear s0
    go_simp
    with_reducible rfl
  rotate_left
  · simp only [Act.put, s1_, s2_, s3_]
    rfl
  refine take_ (i := 6) (N := some 17) (v := ?_) (a' := ?_) #[true, false, false, true, false, false, true, false, false, false, false, false, false, false, false, false, false, false, false, false] rfl rfl (by kernel_rfl) (fun _ _ _ h => h) (Or.inl ⟨by rfl, ?_⟩) hHeld ?_ ?_
  rotate_left
  · intro w' s0
    have d0 : w'.cell? ⟨w2.heap.size, 0, none⟩ = some (.int .u16 A) := (blk_cell s0.1 0).trans rfl
    clear s0
    go_simp
    with_reducible rfl
  rotate_left
  · simp only [Act.put, s1_, s2_, s3_]
    rfl
  refine take_ (i := 9) (N := some 20) (v := ?_) (a' := ?_) #[true, false, false, true, false, false, true, false, false, true, false, false, false, false, false, false, false, false, false, false] rfl rfl (by kernel_rfl) (fun _ _ _ h => h) (Or.inl ⟨by rfl, ?_⟩) hHeld ?_ ?_
  rotate_left
  · intro w' s0
    have d0 : w'.cell? ⟨w2.heap.size, 0, none⟩ = some (.int .u16 A) := (blk_cell s0.1 0).trans rfl
    clear s0
    go_simp
    with_reducible rfl
  rotate_left
  · simp only [Act.put, s1_, s2_, s3_]
    rfl
  refine take_ (i := 12) (N := some 23) (v := ?_) (a' := ?_) #[true, false, false, true, false, false, true, false, false, true, false, false, true, false, false, false, false, false, false, false] rfl rfl (by kernel_rfl) (fun _ _ _ h => h) (Or.inl ⟨by rfl, ?_⟩) hHeld ?_ ?_
  rotate_left
  · intro w' s0
    have d0 : w'.cell? ⟨w2.heap.size, 0, none⟩ = some (.int .u16 A) := (blk_cell s0.1 0).trans rfl
    clear s0
    go_simp
    with_reducible rfl
  rotate_left
  · simp only [Act.put, s1_, s2_, s3_]
    rfl
  refine take_ (i := 15) (N := some 26) (v := ?_) (a' := ?_) #[true, false, false, true, false, false, true, false, false, true, false, false, true, false, false, true, false, false, false, false] rfl rfl (by kernel_rfl) (fun _ _ _ h => h) (Or.inl ⟨by rfl, ?_⟩) hHeld ?_ ?_
  rotate_left
  · intro w' s0
    have d0 : w'.cell? ⟨w2.heap.size, 0, none⟩ = some (.int .u16 A) := (blk_cell s0.1 0).trans rfl
    clear s0
    go_simp
    with_reducible rfl
  rotate_left
  · simp only [Act.put, s1_, s2_, s3_]
    rfl
  refine take_ (i := 1) (N := some 12) (v := ?_) (a' := ?_) #[true, true, false, true, false, false, true, false, false, true, false, false, true, false, false, true, false, false, false, false] rfl rfl (by kernel_rfl) (fun _ _ _ h => h) (Or.inl ⟨by rfl, ?_⟩) hHeld ?_ ?_
  rotate_left
  · intro w' s0
    have d0 : w'.cell? ⟨w2.heap.size + 1, 0, none⟩ = some (.int .u16 B) := (blk_cell s0.2 0).trans rfl
    clear s0
    go_simp
    with_reducible rfl
  rotate_left
  · simp only [Act.put, s1_, s2_, s3_]
    rfl
  refine take_ (i := 4) (N := some 15) (v := ?_) (a' := ?_) #[true, true, false, true, true, false, true, false, false, true, false, false, true, false, false, true, false, false, false, false] rfl rfl (by kernel_rfl) (fun _ _ _ h => h) (Or.inl ⟨by rfl, ?_⟩) hHeld ?_ ?_
  rotate_left
  · intro w' s0
    have d0 : w'.cell? ⟨w2.heap.size + 1, 0, none⟩ = some (.int .u16 B) := (blk_cell s0.2 0).trans rfl
    clear s0
    go_simp
    with_reducible rfl
  rotate_left
  · simp only [Act.put, s1_, s2_, s3_]
    rfl
  refine take_ (i := 7) (N := some 18) (v := ?_) (a' := ?_) #[true, true, false, true, true, false, true, true, false, true, false, false, true, false, false, true, false, false, false, false] rfl rfl (by kernel_rfl) (fun _ _ _ h => h) (Or.inl ⟨by rfl, ?_⟩) hHeld ?_ ?_
  rotate_left
  · intro w' s0
    have d0 : w'.cell? ⟨w2.heap.size + 1, 0, none⟩ = some (.int .u16 B) := (blk_cell s0.2 0).trans rfl
    clear s0
    go_simp
    with_reducible rfl
  rotate_left
  · simp only [Act.put, s1_, s2_, s3_]
    rfl
  refine take_ (i := 10) (N := some 21) (v := ?_) (a' := ?_) #[true, true, false, true, true, false, true, true, false, true, true, false, true, false, false, true, false, false, false, false] rfl rfl (by kernel_rfl) (fun _ _ _ h => h) (Or.inl ⟨by rfl, ?_⟩) hHeld ?_ ?_
  rotate_left
  · intro w' s0
    have d0 : w'.cell? ⟨w2.heap.size + 1, 0, none⟩ = some (.int .u16 B) := (blk_cell s0.2 0).trans rfl
    clear s0
    go_simp
    with_reducible rfl
  rotate_left
  · simp only [Act.put, s1_, s2_, s3_]
    rfl
  refine take_ (i := 13) (N := some 24) (v := ?_) (a' := ?_) #[true, true, false, true, true, false, true, true, false, true, true, false, true, true, false, true, false, false, false, false] rfl rfl (by kernel_rfl) (fun _ _ _ h => h) (Or.inl ⟨by rfl, ?_⟩) hHeld ?_ ?_
  rotate_left
  · intro w' s0
    have d0 : w'.cell? ⟨w2.heap.size + 1, 0, none⟩ = some (.int .u16 B) := (blk_cell s0.2 0).trans rfl
    clear s0
    go_simp
    with_reducible rfl
  rotate_left
  · simp only [Act.put, s1_, s2_, s3_]
    rfl
  refine take_ (i := 16) (N := some 27) (v := ?_) (a' := ?_) #[true, true, false, true, true, false, true, true, false, true, true, false, true, true, false, true, true, false, false, false] rfl rfl (by kernel_rfl) (fun _ _ _ h => h) (Or.inl ⟨by rfl, ?_⟩) hHeld ?_ ?_
  rotate_left
  · intro w' s0
    have d0 : w'.cell? ⟨w2.heap.size + 1, 0, none⟩ = some (.int .u16 B) := (blk_cell s0.2 0).trans rfl
    clear s0
    go_simp
    with_reducible rfl
  rotate_left
  · simp only [Act.put, s1_, s2_, s3_]
    rfl
  refine one_ (i := 2) (N := some 13) #[true, true, true, true, true, false, true, true, false, true, true, false, true, true, false, true, true, false, false, false] rfl rfl (by kernel_rfl) (by decide) (fun K hK => ?_)
  refine goes_ Try.func17 (by kernel_rfl) rfl #[.agg #[.int .u16 A], .agg #[.int .u16 B]] (by rfl) rfl rfl (by (try simp only [List.map_toArray, List.map_cons, List.map_nil]); rfl) ?_
  refine (hc u1).mono ?_
  rintro x u2 ⟨rfl, hb_⟩
  refine ⟨_, rfl, ?_⟩
  have BX1 := blk_below BX0 hb_
  have BY1 := blk_below BY0 hb_
  have BC1 := blk_below BC0 hb_
  have hc1 := hc0.trans (hb_.mono hc0.size)
  clear BX0 BY0 BC0 hc0
  refine hK.out _ _ ⟨BX1, BY1⟩ (fun hHeld2 => ?_)
  clear hK K hb_ hHeld
  have hHeld := hHeld2
  clear hHeld2
  refine norm_ (a' := ?_) ?_ ?_
  rotate_left
  · show Act.put _ (some 13) _ = _
    simp only [Act.put, s1_, s2_, s3_]
    rfl
  refine one_ (i := 5) (N := some 16) #[true, true, true, true, true, true, true, true, false, true, true, false, true, true, false, true, true, false, false, false] rfl rfl (by kernel_rfl) (by decide) (fun K hK => ?_)
  refine goes_ Try.func18 (by kernel_rfl) rfl #[.agg #[.int .u16 A], .agg #[.int .u16 B]] (by rfl) rfl rfl (by (try simp only [List.map_toArray, List.map_cons, List.map_nil]); rfl) ?_
  refine (h1 u2).mono ?_
  rintro x u3 ⟨rfl, hb_⟩
  refine ⟨_, rfl, ?_⟩
  have BX2 := blk_below BX1 hb_
  have BY2 := blk_below BY1 hb_
  have BC2 := blk_below BC1 hb_
  have hc2 := hc1.trans (hb_.mono hc1.size)
  clear BX1 BY1 BC1 hc1
  refine hK.out _ _ ⟨BX2, BY2⟩ (fun hHeld2 => ?_)
  clear hK K hb_ hHeld
  have hHeld := hHeld2
  clear hHeld2
  refine norm_ (a' := ?_) ?_ ?_
  rotate_left
  · show Act.put _ (some 16) _ = _
    simp only [Act.put, s1_, s2_, s3_]
    rfl
  refine one_ (i := 8) (N := some 19) #[true, true, true, true, true, true, true, true, true, true, true, false, true, true, false, true, true, false, false, false] rfl rfl (by kernel_rfl) (by decide) (fun K hK => ?_)
  refine goes_ Try.func19 (by kernel_rfl) rfl #[.agg #[.int .u16 A], .agg #[.int .u16 B]] (by rfl) rfl rfl (by (try simp only [List.map_toArray, List.map_cons, List.map_nil]); rfl) ?_
  refine (h2 u3).mono ?_
  rintro x u4 ⟨rfl, hb_⟩
  refine ⟨_, rfl, ?_⟩
  have BX3 := blk_below BX2 hb_
  have BY3 := blk_below BY2 hb_
  have BC3 := blk_below BC2 hb_
  have hc3 := hc2.trans (hb_.mono hc2.size)
  clear BX2 BY2 BC2 hc2
  refine hK.out _ _ ⟨BX3, BY3⟩ (fun hHeld2 => ?_)
  clear hK K hb_ hHeld
  have hHeld := hHeld2
  clear hHeld2
  refine norm_ (a' := ?_) ?_ ?_
  rotate_left
  · show Act.put _ (some 19) _ = _
    simp only [Act.put, s1_, s2_, s3_]
    rfl
  refine one_ (i := 11) (N := some 22) #[true, true, true, true, true, true, true, true, true, true, true, true, true, true, false, true, true, false, false, false] rfl rfl (by kernel_rfl) (by decide) (fun K hK => ?_)
  refine goes_ Try.func20 (by kernel_rfl) rfl #[.agg #[.int .u16 A], .agg #[.int .u16 B]] (by rfl) rfl rfl (by (try simp only [List.map_toArray, List.map_cons, List.map_nil]); rfl) ?_
  refine (h3 u4).mono ?_
  rintro x u5 ⟨rfl, hb_⟩
  refine ⟨_, rfl, ?_⟩
  have BX4 := blk_below BX3 hb_
  have BY4 := blk_below BY3 hb_
  have BC4 := blk_below BC3 hb_
  have hc4 := hc3.trans (hb_.mono hc3.size)
  clear BX3 BY3 BC3 hc3
  refine hK.out _ _ ⟨BX4, BY4⟩ (fun hHeld2 => ?_)
  clear hK K hb_ hHeld
  have hHeld := hHeld2
  clear hHeld2
  refine norm_ (a' := ?_) ?_ ?_
  rotate_left
  · show Act.put _ (some 22) _ = _
    simp only [Act.put, s1_, s2_, s3_]
    rfl
  refine one_ (i := 14) (N := some 25) #[true, true, true, true, true, true, true, true, true, true, true, true, true, true, true, true, true, false, false, false] rfl rfl (by kernel_rfl) (by decide) (fun K hK => ?_)
  refine goes_ Try.func21 (by kernel_rfl) rfl #[.agg #[.int .u16 A], .agg #[.int .u16 B]] (by rfl) rfl rfl (by (try simp only [List.map_toArray, List.map_cons, List.map_nil]); rfl) ?_
  refine (h4 u5).mono ?_
  rintro x u6 ⟨rfl, hb_⟩
  refine ⟨_, rfl, ?_⟩
  have BX5 := blk_below BX4 hb_
  have BY5 := blk_below BY4 hb_
  have BC5 := blk_below BC4 hb_
  have hc5 := hc4.trans (hb_.mono hc4.size)
  clear BX4 BY4 BC4 hc4
  refine hK.out _ _ ⟨BX5, BY5⟩ (fun hHeld2 => ?_)
  clear hK K hb_ hHeld
  have hHeld := hHeld2
  clear hHeld2
  refine norm_ (a' := ?_) ?_ ?_
  rotate_left
  · show Act.put _ (some 25) _ = _
    simp only [Act.put, s1_, s2_, s3_]
    rfl
  refine one_ (i := 17) (N := some 28) #[true, true, true, true, true, true, true, true, true, true, true, true, true, true, true, true, true, true, false, false] rfl rfl (by kernel_rfl) (by decide) (fun K hK => ?_)
  refine goes_ Try.func22 (by kernel_rfl) rfl #[.agg #[.int .u16 A], .agg #[.int .u16 B]] (by rfl) rfl rfl (by (try simp only [List.map_toArray, List.map_cons, List.map_nil]); rfl) ?_
  refine (h5 u6).mono ?_
  rintro x u7 ⟨rfl, hb_⟩
  refine ⟨_, rfl, ?_⟩
  have BX6 := blk_below BX5 hb_
  have BY6 := blk_below BY5 hb_
  have BC6 := blk_below BC5 hb_
  have hc6 := hc5.trans (hb_.mono hc5.size)
  clear BX5 BY5 BC5 hc5
  refine hK.out _ _ ⟨BX6, BY6⟩ (fun hHeld2 => ?_)
  clear hK K hb_ hHeld
  have hHeld := hHeld2
  clear hHeld2
  refine norm_ (a' := ?_) ?_ ?_
  rotate_left
  · show Act.put _ (some 28) _ = _
    simp only [Act.put, s1_, s2_, s3_]
    rfl
  refine pure_ (i := 18) (N := some 29) (v := ?_) (a' := ?_) #[true, true, true, true, true, true, true, true, true, true, true, true, true, true, true, true, true, true, true, false] rfl rfl (by kernel_rfl) (fun _ _ _ h => h) (Or.inl ⟨by rfl, ?_⟩) ?_ ?_
  rotate_left
  · intro w'
    go_simp
    with_reducible rfl
  rotate_left
  · simp only [Act.put, s1_, s2_, s3_]
    rfl
  obtain ⟨uF, huF⟩ : ∃ uF, uF = ((((((u7.setCell ⟨w.heap.size, 0, none⟩ (.int .i64 c)).setCell ⟨w.heap.size, 1, none⟩ (.bool b1)).setCell ⟨w.heap.size, 2, none⟩ (.bool b2)).setCell ⟨w.heap.size, 3, none⟩ (.bool b3)).setCell ⟨w.heap.size, 4, none⟩ (.bool b4)).setCell ⟨w.heap.size, 5, none⟩ (.bool b5)) := ⟨_, rfl⟩
  have BCF : uF.heap[w.heap.size]? = some (.cells #[.int .i64 c, .bool b1, .bool b2, .bool b3, .bool b4, .bool b5] 30 (0, 0)) := by rw [huF]; exact put6 BC6 (.int .i64 c) (.bool b1) (.bool b2) (.bool b3) (.bool b4) (.bool b5)
  have BXF : uF.heap[w2.heap.size]? = some (.cells #[.int .u16 A] 36 (0, 0)) := by rw [huF]; exact blk_other_ (by omega) (blk_other_ (by omega) (blk_other_ (by omega) (blk_other_ (by omega) (blk_other_ (by omega) (blk_other_ (by omega) BX6)))))
  have BYF : uF.heap[w2.heap.size + 1]? = some (.cells #[.int .u16 B] 36 (0, 0)) := by rw [huF]; exact blk_other_ (by omega) (blk_other_ (by omega) (blk_other_ (by omega) (blk_other_ (by omega) (blk_other_ (by omega) (blk_other_ (by omega) BY6)))))
  have hcF : Below w.heap.size w uF := by rw [huF]; exact bel6 hc6 (Nat.le_refl _) (.int .i64 c) (.bool b1) (.bool b2) (.bool b3) (.bool b4) (.bool b5)
  have z0_ : u7.cell? ⟨w.heap.size, 0, none⟩ = some (.int .i64 0) := (blk_cell BC6 0).trans rfl
  have y0_ := blk_frozen BC6 0
  have z1_ : u7.cell? ⟨w.heap.size, 1, none⟩ = some (.bool false) := (blk_cell BC6 1).trans rfl
  have y1_ := blk_frozen BC6 1
  have z2_ : u7.cell? ⟨w.heap.size, 2, none⟩ = some (.bool false) := (blk_cell BC6 2).trans rfl
  have y2_ := blk_frozen BC6 2
  have z3_ : u7.cell? ⟨w.heap.size, 3, none⟩ = some (.bool false) := (blk_cell BC6 3).trans rfl
  have y3_ := blk_frozen BC6 3
  have z4_ : u7.cell? ⟨w.heap.size, 4, none⟩ = some (.bool false) := (blk_cell BC6 4).trans rfl
  have y4_ := blk_frozen BC6 4
  have z5_ : u7.cell? ⟨w.heap.size, 5, none⟩ = some (.bool false) := (blk_cell BC6 5).trans rfl
  have y5_ := blk_frozen BC6 5
  refine one_ (i := 19) (N := none) #[true, true, true, true, true, true, true, true, true, true, true, true, true, true, true, true, true, true, true, true] rfl rfl (by kernel_rfl) (by decide) (fun K hK => ?_)
  refine skip_ (w1 := uF) (by rfl) rfl ?_ ?_
  · clear BXF BYF BCF hcF BX6 BY6 BC6 hc6 hHeld
    have HF := Lib.hid huF
    clear huF
    go_simp
    rw [HF.out]
  refine hK.out _ _ ⟨BXF, BYF⟩ (fun hHeld2 => ?_)
  clear hK K hHeld huF hHeld2 BX6 BY6 BC6 hc6 BXF BYF z0_ y0_ z1_ y1_ z2_ y2_ z3_ y3_ z4_ y4_ z5_ y5_
  refine done_ (by kernel_rfl) ?_
  have z0_ : uF.cell? ⟨w.heap.size, 0, none⟩ = some (.int .i64 c) := (blk_cell BCF 0).trans rfl
  have z1_ : uF.cell? ⟨w.heap.size, 1, none⟩ = some (.bool b1) := (blk_cell BCF 1).trans rfl
  have z2_ : uF.cell? ⟨w.heap.size, 2, none⟩ = some (.bool b2) := (blk_cell BCF 2).trans rfl
  have z3_ : uF.cell? ⟨w.heap.size, 3, none⟩ = some (.bool b3) := (blk_cell BCF 3).trans rfl
  have z4_ : uF.cell? ⟨w.heap.size, 4, none⟩ = some (.bool b4) := (blk_cell BCF 4).trans rfl
  have z5_ : uF.cell? ⟨w.heap.size, 5, none⟩ = some (.bool b5) := (blk_cell BCF 5).trans rfl
  go_wp2_with (fail)
  refine bodyPost_ret (v := .agg #[.int .i64 c, .bool b1, .bool b2, .bool b3, .bool b4, .bool b5]) (by simp [results, Try.results9, go_sem, z0_, z1_, z2_, z3_, z4_, z5_]) rfl ⟨rfl, hcF⟩
end Go.Proofs.Ytmgpmmmoegjlbaa.V
