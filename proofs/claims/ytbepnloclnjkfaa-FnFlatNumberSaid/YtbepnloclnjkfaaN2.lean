/- The walks of impl.FlatNumberAt. -/
import Derived.Test.YtbepnloclnjkfaaN1
import Derived.Test.YtbepnloclnjkfaaK1
import Derived.Deep.RegionHeld3
namespace Go.Proofs.Ytbepnloclnjkfaa.V
open Go.RowKit Go.Proofs.YtbepnloclnjkfaaW.PrintWords Go.Proofs.YtbepnloclnjkfaaW.PrintLast Go.Proofs.YtbepnloclnjkfaaW.PrintMore
set_option linter.unusedVariables false
set_option linter.unusedSimpArgs false
theorem keep {W W' : World} {p : Addr} {v : Value} (hb : Below W.heap.size W W') (hc : W.cell? p = some v) : W'.cell? p = some v := (hb.cell (World.block_lt_of_cell? W p hc)).trans hc
theorem calls_at {P : Program} {f : FuncId} {a : Array Value} {W : World} {Q : Ending → World → Prop} (h : ∀ w0, w0 = W → Calls P f a w0 Q) : Calls P f a W Q := h _ rfl
theorem wp_at {P : Program} {c : Code} {Q : Exit → Act → World → Prop} {a : Act} {W : World} (h : ∀ w0, w0 = W → Code.wp P c Q a w0) : Code.wp P c Q a W := h _ rfl
theorem blk_new_at {W : World} {g : Nat} {cs : Array Value} {t : TypeId} (h : g = W.heap.size) : (W.alloc (.cells cs t)).heap[g]? = some (.cells cs t (0, 0)) := by subst h; exact blk_new W _
theorem blk_alloc_ {W : World} {g : Nat} {o p : Obj} (h : W.heap[g]? = some o) : (W.alloc p).heap[g]? = some o := blk_below h (below_alloc (Below.refl _ _) _)
theorem blk_drew_ {W : World} {g : Nat} {o : Obj} (h : W.heap[g]? = some o) : W.drew.heap[g]? = some o := h
theorem blk_put_at {W : World} {g : Nat} {t : TypeId} {cs cs' : Array Value} {i : Nat} {u : Value} (h : W.heap[g]? = some (.cells cs t (0, 0))) (e : cs.setIfInBounds i u = cs') : (W.setCell ⟨g, i, none⟩ u).heap[g]? = some (.cells cs' t (0, 0)) := blk_put h i u e
theorem blk_other_ {W : World} {g b i : Nat} {o : Obj} {u : Value} (hne : g ≠ b) (h : W.heap[g]? = some o) : (W.setCell ⟨b, i, none⟩ u).heap[g]? = some o := (heap_setCell_other W ⟨b, i, none⟩ g u hne).trans h
theorem put1 {W : World} {g : Nat} {t : TypeId} {u0 : Value} (h : W.heap[g]? = some (.cells #[u0] t (0, 0))) (v0 : Value) : (W.setCell ⟨g, 0, none⟩ v0).heap[g]? = some (.cells #[v0] t (0, 0)) := by
  have k0 := blk_put_at (cs' := #[v0]) (i := 0) (u := v0) h rfl
  exact k0
theorem far1 {W : World} {g g' : Nat} {o : Obj} (hne : g' ≠ g) (h : W.heap[g']? = some o) (v0 : Value) : (W.setCell ⟨g, 0, none⟩ v0).heap[g']? = some o := blk_other_ hne (h)
theorem bel1 {w W : World} {g : Nat} (h : Below w.heap.size w W) (hg : w.heap.size ≤ g) (v0 : Value) : Below w.heap.size w (W.setCell ⟨g, 0, none⟩ v0) := below_set (h) hg
theorem put2 {W : World} {g : Nat} {t : TypeId} {u0 u1 : Value} (h : W.heap[g]? = some (.cells #[u0, u1] t (0, 0))) (v0 v1 : Value) : ((W.setCell ⟨g, 0, none⟩ v0).setCell ⟨g, 1, none⟩ v1).heap[g]? = some (.cells #[v0, v1] t (0, 0)) := by
  have k0 := blk_put_at (cs' := #[v0, u1]) (i := 0) (u := v0) h rfl
  have k1 := blk_put_at (cs' := #[v0, v1]) (i := 1) (u := v1) k0 rfl
  exact k1
theorem far2 {W : World} {g g' : Nat} {o : Obj} (hne : g' ≠ g) (h : W.heap[g']? = some o) (v0 v1 : Value) : ((W.setCell ⟨g, 0, none⟩ v0).setCell ⟨g, 1, none⟩ v1).heap[g']? = some o := blk_other_ hne (blk_other_ hne (h))
theorem bel2 {w W : World} {g : Nat} (h : Below w.heap.size w W) (hg : w.heap.size ≤ g) (v0 v1 : Value) : Below w.heap.size w ((W.setCell ⟨g, 0, none⟩ v0).setCell ⟨g, 1, none⟩ v1) := below_set (below_set (h) hg) hg
theorem put4 {W : World} {g : Nat} {t : TypeId} {u0 u1 u2 u3 : Value} (h : W.heap[g]? = some (.cells #[u0, u1, u2, u3] t (0, 0))) (v0 v1 v2 v3 : Value) : ((((W.setCell ⟨g, 0, none⟩ v0).setCell ⟨g, 1, none⟩ v1).setCell ⟨g, 2, none⟩ v2).setCell ⟨g, 3, none⟩ v3).heap[g]? = some (.cells #[v0, v1, v2, v3] t (0, 0)) := by
  have k0 := blk_put_at (cs' := #[v0, u1, u2, u3]) (i := 0) (u := v0) h rfl
  have k1 := blk_put_at (cs' := #[v0, v1, u2, u3]) (i := 1) (u := v1) k0 rfl
  have k2 := blk_put_at (cs' := #[v0, v1, v2, u3]) (i := 2) (u := v2) k1 rfl
  have k3 := blk_put_at (cs' := #[v0, v1, v2, v3]) (i := 3) (u := v3) k2 rfl
  exact k3
theorem far4 {W : World} {g g' : Nat} {o : Obj} (hne : g' ≠ g) (h : W.heap[g']? = some o) (v0 v1 v2 v3 : Value) : ((((W.setCell ⟨g, 0, none⟩ v0).setCell ⟨g, 1, none⟩ v1).setCell ⟨g, 2, none⟩ v2).setCell ⟨g, 3, none⟩ v3).heap[g']? = some o := blk_other_ hne (blk_other_ hne (blk_other_ hne (blk_other_ hne (h))))
theorem bel4 {w W : World} {g : Nat} (h : Below w.heap.size w W) (hg : w.heap.size ≤ g) (v0 v1 v2 v3 : Value) : Below w.heap.size w ((((W.setCell ⟨g, 0, none⟩ v0).setCell ⟨g, 1, none⟩ v1).setCell ⟨g, 2, none⟩ v2).setCell ⟨g, 3, none⟩ v3) := below_set (below_set (below_set (below_set (h) hg) hg) hg) hg
theorem put8 {W : World} {g : Nat} {t : TypeId} {u0 u1 u2 u3 u4 u5 u6 u7 : Value} (h : W.heap[g]? = some (.cells #[u0, u1, u2, u3, u4, u5, u6, u7] t (0, 0))) (v0 v1 v2 v3 v4 v5 v6 v7 : Value) : ((((((((W.setCell ⟨g, 0, none⟩ v0).setCell ⟨g, 1, none⟩ v1).setCell ⟨g, 2, none⟩ v2).setCell ⟨g, 3, none⟩ v3).setCell ⟨g, 4, none⟩ v4).setCell ⟨g, 5, none⟩ v5).setCell ⟨g, 6, none⟩ v6).setCell ⟨g, 7, none⟩ v7).heap[g]? = some (.cells #[v0, v1, v2, v3, v4, v5, v6, v7] t (0, 0)) := by
  have k0 := blk_put_at (cs' := #[v0, u1, u2, u3, u4, u5, u6, u7]) (i := 0) (u := v0) h rfl
  have k1 := blk_put_at (cs' := #[v0, v1, u2, u3, u4, u5, u6, u7]) (i := 1) (u := v1) k0 rfl
  have k2 := blk_put_at (cs' := #[v0, v1, v2, u3, u4, u5, u6, u7]) (i := 2) (u := v2) k1 rfl
  have k3 := blk_put_at (cs' := #[v0, v1, v2, v3, u4, u5, u6, u7]) (i := 3) (u := v3) k2 rfl
  have k4 := blk_put_at (cs' := #[v0, v1, v2, v3, v4, u5, u6, u7]) (i := 4) (u := v4) k3 rfl
  have k5 := blk_put_at (cs' := #[v0, v1, v2, v3, v4, v5, u6, u7]) (i := 5) (u := v5) k4 rfl
  have k6 := blk_put_at (cs' := #[v0, v1, v2, v3, v4, v5, v6, u7]) (i := 6) (u := v6) k5 rfl
  have k7 := blk_put_at (cs' := #[v0, v1, v2, v3, v4, v5, v6, v7]) (i := 7) (u := v7) k6 rfl
  exact k7
theorem far8 {W : World} {g g' : Nat} {o : Obj} (hne : g' ≠ g) (h : W.heap[g']? = some o) (v0 v1 v2 v3 v4 v5 v6 v7 : Value) : ((((((((W.setCell ⟨g, 0, none⟩ v0).setCell ⟨g, 1, none⟩ v1).setCell ⟨g, 2, none⟩ v2).setCell ⟨g, 3, none⟩ v3).setCell ⟨g, 4, none⟩ v4).setCell ⟨g, 5, none⟩ v5).setCell ⟨g, 6, none⟩ v6).setCell ⟨g, 7, none⟩ v7).heap[g']? = some o := blk_other_ hne (blk_other_ hne (blk_other_ hne (blk_other_ hne (blk_other_ hne (blk_other_ hne (blk_other_ hne (blk_other_ hne (h))))))))
theorem bel8 {w W : World} {g : Nat} (h : Below w.heap.size w W) (hg : w.heap.size ≤ g) (v0 v1 v2 v3 v4 v5 v6 v7 : Value) : Below w.heap.size w ((((((((W.setCell ⟨g, 0, none⟩ v0).setCell ⟨g, 1, none⟩ v1).setCell ⟨g, 2, none⟩ v2).setCell ⟨g, 3, none⟩ v3).setCell ⟨g, 4, none⟩ v4).setCell ⟨g, 5, none⟩ v5).setCell ⟨g, 6, none⟩ v6).setCell ⟨g, 7, none⟩ v7) := below_set (below_set (below_set (below_set (below_set (below_set (below_set (below_set (h) hg) hg) hg) hg) hg) hg) hg) hg
theorem catch19 (p q r : Addr) (w : World) :
    CallsD Try.prog 19 #[.pointer (some p), .pointer (some q), .pointer (some r)] .returning w fun e u' w' => e = .returned (.tuple #[]) ∧ u' = .returning ∧ w = w' := by
  refine callsD_of_wpS Try.func19 rfl fun c₀ cs hu => ?_
  apply wpS_seq
  apply wpS_region
  simp [wpOpsS, go_sem, recoverD, hu, Try.ntmps19, Exit.thenS]
  refine wpS_cond (t := false) (by simp [Act.eval, Array.replicate]) ?_
  simp only [Bool.false_eq_true, if_false]
  refine wpS_of_wp (wp_skip ?_)
  cases c₀
  simp_all [bodyPostS, results, Try.results19]
theorem fbits32 (n : Nat) (w : World) : (callFunc 22 #[.float .f32 n]).run Try.prog w = .ok (.value (.int .u32 n)) w := by
  rw [run_callFunc_extern Try.func22 (by kernel_rfl) (by kernel_rfl) (by kernel_rfl) (e := Extern.MathFloatBits.float32bits) (by kernel_rfl)]
  rfl
theorem fbits64 (n : Nat) (w : World) : (callFunc 25 #[.float .f64 n]).run Try.prog w = .ok (.value (.int .u64 n)) w := by
  rw [run_callFunc_extern Try.func25 (by kernel_rfl) (by kernel_rfl) (by kernel_rfl) (e := Extern.MathFloatBits.float64bits) (by kernel_rfl)]
  rfl
theorem F_row {W : World} {g t : Nat} {xs : List Int} {ok : Nat → Prop} (h : W.heap[g]? = some (.cells (xs.map (Value.int .u8)).toArray t (0, 0))) (hok : ok g) (hm : xs.length ≤ 9223372036854775807) :
    Kd.F (Kd.int .u8) W ok (some ⟨g, 0, none⟩) xs.length xs := by
  intro W' hW'
  have h' : W'.heap[g]? = some (.cells (xs.map (Value.int .u8)).toArray t (0, 0)) := (hW' g hok (blk_lt h)).trans h
  refine ⟨rfl, hm, fun _ => ⟨_, rfl, fun j p hj => ⟨[.int .u8 p], rfl, rfl, fun i u hu => ?_⟩⟩⟩
  obtain rfl : i = 0 := by
    cases i with
    | zero => rfl
    | succ i => simp at hu
  simp only [List.getElem?_cons_zero, Option.some.injEq] at hu
  subst hu
  have hc := blk_cell h' j
  have e : (xs.map (Value.int .u8)).toArray[j]? = some (Value.int .u8 p) := by simp [hj]
  rw [e] at hc
  have ea : (Addr.mk g 0 none).add (j * (Kd.int .u8).sz + 0) = ⟨g, j, none⟩ := by
    show (Addr.mk g 0 none).add (j * 1 + 0) = _
    unfold Addr.add
    split
    · next c => have : j = 0 := by omega
                subst this; rfl
    · simp
  rw [ea]
  exact hc
def NumPost (w w' : World) (v : Value) (l : List Int) : Prop := Kd.V (Kd.int .u8) 5 w' w.heap.size (fun k_ => w.heap.size ≤ k_) v l ∧ Below w.heap.size w w'
set_option maxHeartbeats 4000000 in
set_option maxRecDepth 100000 in
theorem num_u8 (S1 : Value) (r x0 : Int) (w : World)
    (hr0 : 0 ≤ r) (hr1 : r < 256)
    (hG : ∀ W, Below w.heap.size w W → Calls Try.prog 27 #[S1] W fun e W' => e = .returned (.int .u8 r) ∧ W = W')
    (hP : ∀ (g : Nat) (W : World), W.heap[g]? = some (.cells #[.int .u8 0] 5 (0, 0)) → Calls Try.prog 28 #[.slice (some ⟨g, 0, none⟩) 1 1, .int .u8 r] W fun e W' => e = .returned (.tuple #[]) ∧ W' = (W.setCell ⟨g, 0, none⟩ (.int .u8 x0))) :
    Calls Try.prog 8 #[S1, .int .i64 1, .bool false, .bool false] w fun e w' => ∃ v, e = .returned (.tuple #[.int .u64 r, v, .bool true]) ∧ NumPost w w' v [x0] := by
  have hmf : ∀ (fn : Fn) (first cap : Array Value) (w : World), (Instr.makeFunc fn first cap).run Try.prog w = .ok (.func fn first cap) w := fun _ _ _ _ => rfl
  have hmk : ∀ w, (Instr.makeSlice 22 (.int .i64 1) (.int .i64 1)).run Try.prog w = .ok (.slice (some ⟨w.heap.size, 0, none⟩) 1 1) (w.alloc (.cells #[.int .u8 0] 5)) := fun _ => by kernel_rfl
  go_enter_defers Try.func8, Try.ntmps8
  go_wp2_with (go_at_call 27; fail)
  clear hmf hmk
  refine calls_at ?_
  intro w0 hw0
  have BN0 : w0.heap[w.heap.size]? = some (.cells #[.int .u64 0] 24 (0, 0)) := by rw [hw0]; exact blk_alloc_ (blk_alloc_ (blk_alloc_ (blk_new_at rfl)))
  have BB0 : w0.heap[w.heap.size + 1]? = some (.cells #[.slice (some ⟨w.heap.size + 1 + 1 + 1, 0, none⟩) 1 1] 22 (0, 0)) := by rw [hw0]; exact blk_alloc_ (blk_alloc_ (blk_new_at (by simp)))
  have BO0 : w0.heap[w.heap.size + 1 + 1]? = some (.cells #[.bool false] 4 (0, 0)) := by rw [hw0]; exact blk_alloc_ (blk_new_at (by simp))
  have BD0 : w0.heap[w.heap.size + 1 + 1 + 1]? = some (.cells #[.int .u8 0] 5 (0, 0)) := by rw [hw0]; exact blk_new_at (by simp)
  have hb0 : Below w.heap.size w w0 := by rw [hw0]; exact below_alloc (below_alloc (below_alloc (below_alloc (Below.refl _ _) _) _) _) _
  clear hw0
  refine (hG w0 hb0).mono ?_
  rintro e w1 ⟨rfl, rfl⟩
  clear hG
  have c0 : w0.cell? ⟨w.heap.size + 1, 0, none⟩ = some (.slice (some ⟨w.heap.size + 1 + 1 + 1, 0, none⟩) 1 1) := (blk_cell BB0 0).trans rfl
  go_wp2_with (go_at_call 28; fail)
  refine (hP _ w0 BD0).mono ?_
  rintro e w2 ⟨rfl, hw2⟩
  clear hP c0
  have BN1 : w2.heap[w.heap.size]? = some (.cells #[.int .u64 0] 24 (0, 0)) := by rw [hw2]; exact far1 (by omega) BN0 (.int .u8 x0)
  have BB1 : w2.heap[w.heap.size + 1]? = some (.cells #[.slice (some ⟨w.heap.size + 1 + 1 + 1, 0, none⟩) 1 1] 22 (0, 0)) := by rw [hw2]; exact far1 (by omega) BB0 (.int .u8 x0)
  have BO1 : w2.heap[w.heap.size + 1 + 1]? = some (.cells #[.bool false] 4 (0, 0)) := by rw [hw2]; exact far1 (by omega) BO0 (.int .u8 x0)
  have BD1 : w2.heap[w.heap.size + 1 + 1 + 1]? = some (.cells #[.int .u8 x0] 5 (0, 0)) := by rw [hw2]; exact put1 BD0 (.int .u8 x0)
  have hb2 : Below w.heap.size w w2 := by rw [hw2]; exact bel1 hb0 (by omega) (.int .u8 x0)
  clear hw2 BN0 BB0 BO0 BD0 hb0
  have cn : w2.cell? ⟨w.heap.size, 0, none⟩ = some (.int .u64 0) := (blk_cell BN1 0).trans rfl
  have fn := blk_frozen BN1 0
  have cb : w2.cell? ⟨w.heap.size + 1, 0, none⟩ = some (.slice (some ⟨w.heap.size + 1 + 1 + 1, 0, none⟩) 1 1) := (blk_cell BB1 0).trans rfl
  have fb := blk_frozen BB1 0
  have co : w2.cell? ⟨w.heap.size + 1 + 1, 0, none⟩ = some (.bool false) := (blk_cell BO1 0).trans rfl
  have fo := blk_frozen BO1 0
  have H1 := Lib.hid (And.intro BN1 (And.intro BB1 (And.intro BO1 (And.intro BD1 hb2))))
  clear BN1 BB1 BO1 BD1 hb2
  go_wp2_with (fail)
  go_region
  all_goals go_wp2_with (fail)
  obtain ⟨BN1, BB1, BO1, BD1, hb2⟩ := H1.out
  clear H1 cn fn cb fb co fo
  obtain ⟨wF, hwF⟩ : ∃ wF, wF = (((w2.setCell ⟨w.heap.size, 0, none⟩ (.int .u64 r)).setCell ⟨w.heap.size + 1, 0, none⟩ (.slice (some ⟨w.heap.size + 1 + 1 + 1, 0, none⟩) 1 1)).setCell ⟨w.heap.size + 1 + 1, 0, none⟩ (.bool true)).drew := ⟨_, rfl⟩
  rw [← hwF]
  have qN : wF.heap[w.heap.size]? = some (.cells #[.int .u64 r] 24 (0, 0)) := by rw [hwF]; exact blk_drew_ (blk_other_ (by omega) (blk_other_ (by omega) (blk_put_at BN1 rfl)))
  have qB : wF.heap[w.heap.size + 1]? = some (.cells #[.slice (some ⟨w.heap.size + 1 + 1 + 1, 0, none⟩) 1 1] 22 (0, 0)) := by rw [hwF]; exact blk_drew_ (blk_other_ (by omega) (blk_put_at (blk_other_ (by omega) BB1) rfl))
  have qO : wF.heap[w.heap.size + 1 + 1]? = some (.cells #[.bool true] 4 (0, 0)) := by rw [hwF]; exact blk_drew_ (blk_put_at (blk_other_ (by omega) (blk_other_ (by omega) BO1)) rfl)
  have qD : wF.heap[w.heap.size + 1 + 1 + 1]? = some (.cells #[.int .u8 x0] 5 (0, 0)) := by rw [hwF]; exact blk_drew_ (blk_other_ (by omega) (blk_other_ (by omega) (blk_other_ (by omega) BD1)))
  have hbF : Below w.heap.size w wF := by rw [hwF]; exact below_drew (below_set (below_set (below_set hb2 (Nat.le_refl _)) (by omega)) (by omega))
  clear hwF BN1 BB1 BO1 BD1 hb2
  have HP : NumPost w wF (.slice (some ⟨w.heap.size + 1 + 1 + 1, 0, none⟩) 1 1) [x0] := ⟨Kd.V_mk (xs := [x0]) (Nat.le_refl _) (F_row (xs := [x0]) qD (by show w.heap.size ≤ _; omega) (by simp)), hbF⟩
  clear qD hbF
  refine leaves_cons (f := 19) (args := #[.pointer (some ⟨w.heap.size, 0, none⟩), .pointer (some ⟨w.heap.size + 1, 0, none⟩), .pointer (some ⟨w.heap.size + 1 + 1, 0, none⟩)]) (by simp) (by simp [go_sem]) ?_
  refine (catch19 _ _ _ _).mono ?_
  rintro e u' w'' ⟨rfl, rfl, rfl⟩
  have cN := (blk_cell qN 0).trans (show _ = some (Value.int .u64 r) from rfl)
  have cB := (blk_cell qB 0).trans (show _ = some (Value.slice (some ⟨w.heap.size + 1 + 1 + 1, 0, none⟩) 1 1) from rfl)
  have cO := (blk_cell qO 0).trans (show _ = some (Value.bool true) from rfl)
  simp [Leaves, settle, results, Try.results8, go_sem, cN, cB, cO]
  exact HP
set_option maxHeartbeats 4000000 in
set_option maxRecDepth 100000 in
theorem num_u16 (S1 : Value) (r x0 x1 : Int) (w : World)
    (hr0 : 0 ≤ r) (hr1 : r < 65536)
    (hG : ∀ W, Below w.heap.size w W → Calls Try.prog 29 #[S1] W fun e W' => e = .returned (.int .u16 r) ∧ W = W')
    (hP : ∀ (g : Nat) (W : World), W.heap[g]? = some (.cells #[.int .u8 0, .int .u8 0] 5 (0, 0)) → Calls Try.prog 30 #[.slice (some ⟨g, 0, none⟩) 2 2, .int .u16 r] W fun e W' => e = .returned (.tuple #[]) ∧ W' = ((W.setCell ⟨g, 0, none⟩ (.int .u8 x0)).setCell ⟨g, 1, none⟩ (.int .u8 x1))) :
    Calls Try.prog 8 #[S1, .int .i64 2, .bool false, .bool false] w fun e w' => ∃ v, e = .returned (.tuple #[.int .u64 r, v, .bool true]) ∧ NumPost w w' v [x0, x1] := by
  have hmf : ∀ (fn : Fn) (first cap : Array Value) (w : World), (Instr.makeFunc fn first cap).run Try.prog w = .ok (.func fn first cap) w := fun _ _ _ _ => rfl
  have hmk : ∀ w, (Instr.makeSlice 22 (.int .i64 2) (.int .i64 2)).run Try.prog w = .ok (.slice (some ⟨w.heap.size, 0, none⟩) 2 2) (w.alloc (.cells #[.int .u8 0, .int .u8 0] 5)) := fun _ => by kernel_rfl
  go_enter_defers Try.func8, Try.ntmps8
  go_wp2_with (go_at_call 29; fail)
  clear hmf hmk
  refine calls_at ?_
  intro w0 hw0
  have BN0 : w0.heap[w.heap.size]? = some (.cells #[.int .u64 0] 24 (0, 0)) := by rw [hw0]; exact blk_alloc_ (blk_alloc_ (blk_alloc_ (blk_new_at rfl)))
  have BB0 : w0.heap[w.heap.size + 1]? = some (.cells #[.slice (some ⟨w.heap.size + 1 + 1 + 1, 0, none⟩) 2 2] 22 (0, 0)) := by rw [hw0]; exact blk_alloc_ (blk_alloc_ (blk_new_at (by simp)))
  have BO0 : w0.heap[w.heap.size + 1 + 1]? = some (.cells #[.bool false] 4 (0, 0)) := by rw [hw0]; exact blk_alloc_ (blk_new_at (by simp))
  have BD0 : w0.heap[w.heap.size + 1 + 1 + 1]? = some (.cells #[.int .u8 0, .int .u8 0] 5 (0, 0)) := by rw [hw0]; exact blk_new_at (by simp)
  have hb0 : Below w.heap.size w w0 := by rw [hw0]; exact below_alloc (below_alloc (below_alloc (below_alloc (Below.refl _ _) _) _) _) _
  clear hw0
  refine (hG w0 hb0).mono ?_
  rintro e w1 ⟨rfl, rfl⟩
  clear hG
  have c0 : w0.cell? ⟨w.heap.size + 1, 0, none⟩ = some (.slice (some ⟨w.heap.size + 1 + 1 + 1, 0, none⟩) 2 2) := (blk_cell BB0 0).trans rfl
  go_wp2_with (go_at_call 30; fail)
  refine (hP _ w0 BD0).mono ?_
  rintro e w2 ⟨rfl, hw2⟩
  clear hP c0
  have BN1 : w2.heap[w.heap.size]? = some (.cells #[.int .u64 0] 24 (0, 0)) := by rw [hw2]; exact far2 (by omega) BN0 (.int .u8 x0) (.int .u8 x1)
  have BB1 : w2.heap[w.heap.size + 1]? = some (.cells #[.slice (some ⟨w.heap.size + 1 + 1 + 1, 0, none⟩) 2 2] 22 (0, 0)) := by rw [hw2]; exact far2 (by omega) BB0 (.int .u8 x0) (.int .u8 x1)
  have BO1 : w2.heap[w.heap.size + 1 + 1]? = some (.cells #[.bool false] 4 (0, 0)) := by rw [hw2]; exact far2 (by omega) BO0 (.int .u8 x0) (.int .u8 x1)
  have BD1 : w2.heap[w.heap.size + 1 + 1 + 1]? = some (.cells #[.int .u8 x0, .int .u8 x1] 5 (0, 0)) := by rw [hw2]; exact put2 BD0 (.int .u8 x0) (.int .u8 x1)
  have hb2 : Below w.heap.size w w2 := by rw [hw2]; exact bel2 hb0 (by omega) (.int .u8 x0) (.int .u8 x1)
  clear hw2 BN0 BB0 BO0 BD0 hb0
  have cn : w2.cell? ⟨w.heap.size, 0, none⟩ = some (.int .u64 0) := (blk_cell BN1 0).trans rfl
  have fn := blk_frozen BN1 0
  have cb : w2.cell? ⟨w.heap.size + 1, 0, none⟩ = some (.slice (some ⟨w.heap.size + 1 + 1 + 1, 0, none⟩) 2 2) := (blk_cell BB1 0).trans rfl
  have fb := blk_frozen BB1 0
  have co : w2.cell? ⟨w.heap.size + 1 + 1, 0, none⟩ = some (.bool false) := (blk_cell BO1 0).trans rfl
  have fo := blk_frozen BO1 0
  have H1 := Lib.hid (And.intro BN1 (And.intro BB1 (And.intro BO1 (And.intro BD1 hb2))))
  clear BN1 BB1 BO1 BD1 hb2
  go_wp2_with (fail)
  go_region
  all_goals go_wp2_with (fail)
  obtain ⟨BN1, BB1, BO1, BD1, hb2⟩ := H1.out
  clear H1 cn fn cb fb co fo
  obtain ⟨wF, hwF⟩ : ∃ wF, wF = (((w2.setCell ⟨w.heap.size, 0, none⟩ (.int .u64 r)).setCell ⟨w.heap.size + 1, 0, none⟩ (.slice (some ⟨w.heap.size + 1 + 1 + 1, 0, none⟩) 2 2)).setCell ⟨w.heap.size + 1 + 1, 0, none⟩ (.bool true)).drew := ⟨_, rfl⟩
  rw [← hwF]
  have qN : wF.heap[w.heap.size]? = some (.cells #[.int .u64 r] 24 (0, 0)) := by rw [hwF]; exact blk_drew_ (blk_other_ (by omega) (blk_other_ (by omega) (blk_put_at BN1 rfl)))
  have qB : wF.heap[w.heap.size + 1]? = some (.cells #[.slice (some ⟨w.heap.size + 1 + 1 + 1, 0, none⟩) 2 2] 22 (0, 0)) := by rw [hwF]; exact blk_drew_ (blk_other_ (by omega) (blk_put_at (blk_other_ (by omega) BB1) rfl))
  have qO : wF.heap[w.heap.size + 1 + 1]? = some (.cells #[.bool true] 4 (0, 0)) := by rw [hwF]; exact blk_drew_ (blk_put_at (blk_other_ (by omega) (blk_other_ (by omega) BO1)) rfl)
  have qD : wF.heap[w.heap.size + 1 + 1 + 1]? = some (.cells #[.int .u8 x0, .int .u8 x1] 5 (0, 0)) := by rw [hwF]; exact blk_drew_ (blk_other_ (by omega) (blk_other_ (by omega) (blk_other_ (by omega) BD1)))
  have hbF : Below w.heap.size w wF := by rw [hwF]; exact below_drew (below_set (below_set (below_set hb2 (Nat.le_refl _)) (by omega)) (by omega))
  clear hwF BN1 BB1 BO1 BD1 hb2
  have HP : NumPost w wF (.slice (some ⟨w.heap.size + 1 + 1 + 1, 0, none⟩) 2 2) [x0, x1] := ⟨Kd.V_mk (xs := [x0, x1]) (Nat.le_refl _) (F_row (xs := [x0, x1]) qD (by show w.heap.size ≤ _; omega) (by simp)), hbF⟩
  clear qD hbF
  refine leaves_cons (f := 19) (args := #[.pointer (some ⟨w.heap.size, 0, none⟩), .pointer (some ⟨w.heap.size + 1, 0, none⟩), .pointer (some ⟨w.heap.size + 1 + 1, 0, none⟩)]) (by simp) (by simp [go_sem]) ?_
  refine (catch19 _ _ _ _).mono ?_
  rintro e u' w'' ⟨rfl, rfl, rfl⟩
  have cN := (blk_cell qN 0).trans (show _ = some (Value.int .u64 r) from rfl)
  have cB := (blk_cell qB 0).trans (show _ = some (Value.slice (some ⟨w.heap.size + 1 + 1 + 1, 0, none⟩) 2 2) from rfl)
  have cO := (blk_cell qO 0).trans (show _ = some (Value.bool true) from rfl)
  simp [Leaves, settle, results, Try.results8, go_sem, cN, cB, cO]
  exact HP
set_option maxHeartbeats 4000000 in
set_option maxRecDepth 100000 in
theorem num_u32 (S1 : Value) (r x0 x1 x2 x3 : Int) (w : World)
    (hr0 : 0 ≤ r) (hr1 : r < 4294967296)
    (hG : ∀ W, Below w.heap.size w W → Calls Try.prog 31 #[S1] W fun e W' => e = .returned (.int .u32 r) ∧ W = W')
    (hP : ∀ (g : Nat) (W : World), W.heap[g]? = some (.cells #[.int .u8 0, .int .u8 0, .int .u8 0, .int .u8 0] 5 (0, 0)) → Calls Try.prog 32 #[.slice (some ⟨g, 0, none⟩) 4 4, .int .u32 r] W fun e W' => e = .returned (.tuple #[]) ∧ W' = ((((W.setCell ⟨g, 0, none⟩ (.int .u8 x0)).setCell ⟨g, 1, none⟩ (.int .u8 x1)).setCell ⟨g, 2, none⟩ (.int .u8 x2)).setCell ⟨g, 3, none⟩ (.int .u8 x3))) :
    Calls Try.prog 8 #[S1, .int .i64 4, .bool false, .bool false] w fun e w' => ∃ v, e = .returned (.tuple #[.int .u64 r, v, .bool true]) ∧ NumPost w w' v [x0, x1, x2, x3] := by
  have hmf : ∀ (fn : Fn) (first cap : Array Value) (w : World), (Instr.makeFunc fn first cap).run Try.prog w = .ok (.func fn first cap) w := fun _ _ _ _ => rfl
  have hmk : ∀ w, (Instr.makeSlice 22 (.int .i64 4) (.int .i64 4)).run Try.prog w = .ok (.slice (some ⟨w.heap.size, 0, none⟩) 4 4) (w.alloc (.cells #[.int .u8 0, .int .u8 0, .int .u8 0, .int .u8 0] 5)) := fun _ => by kernel_rfl
  go_enter_defers Try.func8, Try.ntmps8
  go_wp2_with (go_at_call 31; fail)
  clear hmf hmk
  refine calls_at ?_
  intro w0 hw0
  have BN0 : w0.heap[w.heap.size]? = some (.cells #[.int .u64 0] 24 (0, 0)) := by rw [hw0]; exact blk_alloc_ (blk_alloc_ (blk_alloc_ (blk_new_at rfl)))
  have BB0 : w0.heap[w.heap.size + 1]? = some (.cells #[.slice (some ⟨w.heap.size + 1 + 1 + 1, 0, none⟩) 4 4] 22 (0, 0)) := by rw [hw0]; exact blk_alloc_ (blk_alloc_ (blk_new_at (by simp)))
  have BO0 : w0.heap[w.heap.size + 1 + 1]? = some (.cells #[.bool false] 4 (0, 0)) := by rw [hw0]; exact blk_alloc_ (blk_new_at (by simp))
  have BD0 : w0.heap[w.heap.size + 1 + 1 + 1]? = some (.cells #[.int .u8 0, .int .u8 0, .int .u8 0, .int .u8 0] 5 (0, 0)) := by rw [hw0]; exact blk_new_at (by simp)
  have hb0 : Below w.heap.size w w0 := by rw [hw0]; exact below_alloc (below_alloc (below_alloc (below_alloc (Below.refl _ _) _) _) _) _
  clear hw0
  refine (hG w0 hb0).mono ?_
  rintro e w1 ⟨rfl, rfl⟩
  clear hG
  have c0 : w0.cell? ⟨w.heap.size + 1, 0, none⟩ = some (.slice (some ⟨w.heap.size + 1 + 1 + 1, 0, none⟩) 4 4) := (blk_cell BB0 0).trans rfl
  go_wp2_with (go_at_call 32; fail)
  refine (hP _ w0 BD0).mono ?_
  rintro e w2 ⟨rfl, hw2⟩
  clear hP c0
  have BN1 : w2.heap[w.heap.size]? = some (.cells #[.int .u64 0] 24 (0, 0)) := by rw [hw2]; exact far4 (by omega) BN0 (.int .u8 x0) (.int .u8 x1) (.int .u8 x2) (.int .u8 x3)
  have BB1 : w2.heap[w.heap.size + 1]? = some (.cells #[.slice (some ⟨w.heap.size + 1 + 1 + 1, 0, none⟩) 4 4] 22 (0, 0)) := by rw [hw2]; exact far4 (by omega) BB0 (.int .u8 x0) (.int .u8 x1) (.int .u8 x2) (.int .u8 x3)
  have BO1 : w2.heap[w.heap.size + 1 + 1]? = some (.cells #[.bool false] 4 (0, 0)) := by rw [hw2]; exact far4 (by omega) BO0 (.int .u8 x0) (.int .u8 x1) (.int .u8 x2) (.int .u8 x3)
  have BD1 : w2.heap[w.heap.size + 1 + 1 + 1]? = some (.cells #[.int .u8 x0, .int .u8 x1, .int .u8 x2, .int .u8 x3] 5 (0, 0)) := by rw [hw2]; exact put4 BD0 (.int .u8 x0) (.int .u8 x1) (.int .u8 x2) (.int .u8 x3)
  have hb2 : Below w.heap.size w w2 := by rw [hw2]; exact bel4 hb0 (by omega) (.int .u8 x0) (.int .u8 x1) (.int .u8 x2) (.int .u8 x3)
  clear hw2 BN0 BB0 BO0 BD0 hb0
  have cn : w2.cell? ⟨w.heap.size, 0, none⟩ = some (.int .u64 0) := (blk_cell BN1 0).trans rfl
  have fn := blk_frozen BN1 0
  have cb : w2.cell? ⟨w.heap.size + 1, 0, none⟩ = some (.slice (some ⟨w.heap.size + 1 + 1 + 1, 0, none⟩) 4 4) := (blk_cell BB1 0).trans rfl
  have fb := blk_frozen BB1 0
  have co : w2.cell? ⟨w.heap.size + 1 + 1, 0, none⟩ = some (.bool false) := (blk_cell BO1 0).trans rfl
  have fo := blk_frozen BO1 0
  have H1 := Lib.hid (And.intro BN1 (And.intro BB1 (And.intro BO1 (And.intro BD1 hb2))))
  clear BN1 BB1 BO1 BD1 hb2
  go_wp2_with (fail)
  go_region
  all_goals go_wp2_with (fail)
  obtain ⟨BN1, BB1, BO1, BD1, hb2⟩ := H1.out
  clear H1 cn fn cb fb co fo
  obtain ⟨wF, hwF⟩ : ∃ wF, wF = (((w2.setCell ⟨w.heap.size, 0, none⟩ (.int .u64 r)).setCell ⟨w.heap.size + 1, 0, none⟩ (.slice (some ⟨w.heap.size + 1 + 1 + 1, 0, none⟩) 4 4)).setCell ⟨w.heap.size + 1 + 1, 0, none⟩ (.bool true)).drew := ⟨_, rfl⟩
  rw [← hwF]
  have qN : wF.heap[w.heap.size]? = some (.cells #[.int .u64 r] 24 (0, 0)) := by rw [hwF]; exact blk_drew_ (blk_other_ (by omega) (blk_other_ (by omega) (blk_put_at BN1 rfl)))
  have qB : wF.heap[w.heap.size + 1]? = some (.cells #[.slice (some ⟨w.heap.size + 1 + 1 + 1, 0, none⟩) 4 4] 22 (0, 0)) := by rw [hwF]; exact blk_drew_ (blk_other_ (by omega) (blk_put_at (blk_other_ (by omega) BB1) rfl))
  have qO : wF.heap[w.heap.size + 1 + 1]? = some (.cells #[.bool true] 4 (0, 0)) := by rw [hwF]; exact blk_drew_ (blk_put_at (blk_other_ (by omega) (blk_other_ (by omega) BO1)) rfl)
  have qD : wF.heap[w.heap.size + 1 + 1 + 1]? = some (.cells #[.int .u8 x0, .int .u8 x1, .int .u8 x2, .int .u8 x3] 5 (0, 0)) := by rw [hwF]; exact blk_drew_ (blk_other_ (by omega) (blk_other_ (by omega) (blk_other_ (by omega) BD1)))
  have hbF : Below w.heap.size w wF := by rw [hwF]; exact below_drew (below_set (below_set (below_set hb2 (Nat.le_refl _)) (by omega)) (by omega))
  clear hwF BN1 BB1 BO1 BD1 hb2
  have HP : NumPost w wF (.slice (some ⟨w.heap.size + 1 + 1 + 1, 0, none⟩) 4 4) [x0, x1, x2, x3] := ⟨Kd.V_mk (xs := [x0, x1, x2, x3]) (Nat.le_refl _) (F_row (xs := [x0, x1, x2, x3]) qD (by show w.heap.size ≤ _; omega) (by simp)), hbF⟩
  clear qD hbF
  refine leaves_cons (f := 19) (args := #[.pointer (some ⟨w.heap.size, 0, none⟩), .pointer (some ⟨w.heap.size + 1, 0, none⟩), .pointer (some ⟨w.heap.size + 1 + 1, 0, none⟩)]) (by simp) (by simp [go_sem]) ?_
  refine (catch19 _ _ _ _).mono ?_
  rintro e u' w'' ⟨rfl, rfl, rfl⟩
  have cN := (blk_cell qN 0).trans (show _ = some (Value.int .u64 r) from rfl)
  have cB := (blk_cell qB 0).trans (show _ = some (Value.slice (some ⟨w.heap.size + 1 + 1 + 1, 0, none⟩) 4 4) from rfl)
  have cO := (blk_cell qO 0).trans (show _ = some (Value.bool true) from rfl)
  simp [Leaves, settle, results, Try.results8, go_sem, cN, cB, cO]
  exact HP
set_option maxHeartbeats 4000000 in
set_option maxRecDepth 100000 in
theorem num_u64 (S1 : Value) (r x0 x1 x2 x3 x4 x5 x6 x7 : Int) (w : World)
    (hr0 : 0 ≤ r) (hr1 : r < 18446744073709551616)
    (hG : ∀ W, Below w.heap.size w W → Calls Try.prog 33 #[S1] W fun e W' => e = .returned (.int .u64 r) ∧ W = W')
    (hP : ∀ (g : Nat) (W : World), W.heap[g]? = some (.cells #[.int .u8 0, .int .u8 0, .int .u8 0, .int .u8 0, .int .u8 0, .int .u8 0, .int .u8 0, .int .u8 0] 5 (0, 0)) → Calls Try.prog 34 #[.slice (some ⟨g, 0, none⟩) 8 8, .int .u64 r] W fun e W' => e = .returned (.tuple #[]) ∧ W' = ((((((((W.setCell ⟨g, 0, none⟩ (.int .u8 x0)).setCell ⟨g, 1, none⟩ (.int .u8 x1)).setCell ⟨g, 2, none⟩ (.int .u8 x2)).setCell ⟨g, 3, none⟩ (.int .u8 x3)).setCell ⟨g, 4, none⟩ (.int .u8 x4)).setCell ⟨g, 5, none⟩ (.int .u8 x5)).setCell ⟨g, 6, none⟩ (.int .u8 x6)).setCell ⟨g, 7, none⟩ (.int .u8 x7))) :
    Calls Try.prog 8 #[S1, .int .i64 8, .bool false, .bool false] w fun e w' => ∃ v, e = .returned (.tuple #[.int .u64 r, v, .bool true]) ∧ NumPost w w' v [x0, x1, x2, x3, x4, x5, x6, x7] := by
  have hmf : ∀ (fn : Fn) (first cap : Array Value) (w : World), (Instr.makeFunc fn first cap).run Try.prog w = .ok (.func fn first cap) w := fun _ _ _ _ => rfl
  have hmk : ∀ w, (Instr.makeSlice 22 (.int .i64 8) (.int .i64 8)).run Try.prog w = .ok (.slice (some ⟨w.heap.size, 0, none⟩) 8 8) (w.alloc (.cells #[.int .u8 0, .int .u8 0, .int .u8 0, .int .u8 0, .int .u8 0, .int .u8 0, .int .u8 0, .int .u8 0] 5)) := fun _ => by kernel_rfl
  go_enter_defers Try.func8, Try.ntmps8
  go_wp2_with (go_at_call 33; fail)
  clear hmf hmk
  refine calls_at ?_
  intro w0 hw0
  have BN0 : w0.heap[w.heap.size]? = some (.cells #[.int .u64 0] 24 (0, 0)) := by rw [hw0]; exact blk_alloc_ (blk_alloc_ (blk_alloc_ (blk_new_at rfl)))
  have BB0 : w0.heap[w.heap.size + 1]? = some (.cells #[.slice (some ⟨w.heap.size + 1 + 1 + 1, 0, none⟩) 8 8] 22 (0, 0)) := by rw [hw0]; exact blk_alloc_ (blk_alloc_ (blk_new_at (by simp)))
  have BO0 : w0.heap[w.heap.size + 1 + 1]? = some (.cells #[.bool false] 4 (0, 0)) := by rw [hw0]; exact blk_alloc_ (blk_new_at (by simp))
  have BD0 : w0.heap[w.heap.size + 1 + 1 + 1]? = some (.cells #[.int .u8 0, .int .u8 0, .int .u8 0, .int .u8 0, .int .u8 0, .int .u8 0, .int .u8 0, .int .u8 0] 5 (0, 0)) := by rw [hw0]; exact blk_new_at (by simp)
  have hb0 : Below w.heap.size w w0 := by rw [hw0]; exact below_alloc (below_alloc (below_alloc (below_alloc (Below.refl _ _) _) _) _) _
  clear hw0
  refine (hG w0 hb0).mono ?_
  rintro e w1 ⟨rfl, rfl⟩
  clear hG
  have c0 : w0.cell? ⟨w.heap.size + 1, 0, none⟩ = some (.slice (some ⟨w.heap.size + 1 + 1 + 1, 0, none⟩) 8 8) := (blk_cell BB0 0).trans rfl
  go_wp2_with (go_at_call 34; fail)
  refine (hP _ w0 BD0).mono ?_
  rintro e w2 ⟨rfl, hw2⟩
  clear hP c0
  have BN1 : w2.heap[w.heap.size]? = some (.cells #[.int .u64 0] 24 (0, 0)) := by rw [hw2]; exact far8 (by omega) BN0 (.int .u8 x0) (.int .u8 x1) (.int .u8 x2) (.int .u8 x3) (.int .u8 x4) (.int .u8 x5) (.int .u8 x6) (.int .u8 x7)
  have BB1 : w2.heap[w.heap.size + 1]? = some (.cells #[.slice (some ⟨w.heap.size + 1 + 1 + 1, 0, none⟩) 8 8] 22 (0, 0)) := by rw [hw2]; exact far8 (by omega) BB0 (.int .u8 x0) (.int .u8 x1) (.int .u8 x2) (.int .u8 x3) (.int .u8 x4) (.int .u8 x5) (.int .u8 x6) (.int .u8 x7)
  have BO1 : w2.heap[w.heap.size + 1 + 1]? = some (.cells #[.bool false] 4 (0, 0)) := by rw [hw2]; exact far8 (by omega) BO0 (.int .u8 x0) (.int .u8 x1) (.int .u8 x2) (.int .u8 x3) (.int .u8 x4) (.int .u8 x5) (.int .u8 x6) (.int .u8 x7)
  have BD1 : w2.heap[w.heap.size + 1 + 1 + 1]? = some (.cells #[.int .u8 x0, .int .u8 x1, .int .u8 x2, .int .u8 x3, .int .u8 x4, .int .u8 x5, .int .u8 x6, .int .u8 x7] 5 (0, 0)) := by rw [hw2]; exact put8 BD0 (.int .u8 x0) (.int .u8 x1) (.int .u8 x2) (.int .u8 x3) (.int .u8 x4) (.int .u8 x5) (.int .u8 x6) (.int .u8 x7)
  have hb2 : Below w.heap.size w w2 := by rw [hw2]; exact bel8 hb0 (by omega) (.int .u8 x0) (.int .u8 x1) (.int .u8 x2) (.int .u8 x3) (.int .u8 x4) (.int .u8 x5) (.int .u8 x6) (.int .u8 x7)
  clear hw2 BN0 BB0 BO0 BD0 hb0
  have cn : w2.cell? ⟨w.heap.size, 0, none⟩ = some (.int .u64 0) := (blk_cell BN1 0).trans rfl
  have fn := blk_frozen BN1 0
  have cb : w2.cell? ⟨w.heap.size + 1, 0, none⟩ = some (.slice (some ⟨w.heap.size + 1 + 1 + 1, 0, none⟩) 8 8) := (blk_cell BB1 0).trans rfl
  have fb := blk_frozen BB1 0
  have co : w2.cell? ⟨w.heap.size + 1 + 1, 0, none⟩ = some (.bool false) := (blk_cell BO1 0).trans rfl
  have fo := blk_frozen BO1 0
  have H1 := Lib.hid (And.intro BN1 (And.intro BB1 (And.intro BO1 (And.intro BD1 hb2))))
  clear BN1 BB1 BO1 BD1 hb2
  go_wp2_with (fail)
  go_region
  all_goals go_wp2_with (fail)
  obtain ⟨BN1, BB1, BO1, BD1, hb2⟩ := H1.out
  clear H1 cn fn cb fb co fo
  obtain ⟨wF, hwF⟩ : ∃ wF, wF = (((w2.setCell ⟨w.heap.size, 0, none⟩ (.int .u64 r)).setCell ⟨w.heap.size + 1, 0, none⟩ (.slice (some ⟨w.heap.size + 1 + 1 + 1, 0, none⟩) 8 8)).setCell ⟨w.heap.size + 1 + 1, 0, none⟩ (.bool true)).drew := ⟨_, rfl⟩
  rw [← hwF]
  have qN : wF.heap[w.heap.size]? = some (.cells #[.int .u64 r] 24 (0, 0)) := by rw [hwF]; exact blk_drew_ (blk_other_ (by omega) (blk_other_ (by omega) (blk_put_at BN1 rfl)))
  have qB : wF.heap[w.heap.size + 1]? = some (.cells #[.slice (some ⟨w.heap.size + 1 + 1 + 1, 0, none⟩) 8 8] 22 (0, 0)) := by rw [hwF]; exact blk_drew_ (blk_other_ (by omega) (blk_put_at (blk_other_ (by omega) BB1) rfl))
  have qO : wF.heap[w.heap.size + 1 + 1]? = some (.cells #[.bool true] 4 (0, 0)) := by rw [hwF]; exact blk_drew_ (blk_put_at (blk_other_ (by omega) (blk_other_ (by omega) BO1)) rfl)
  have qD : wF.heap[w.heap.size + 1 + 1 + 1]? = some (.cells #[.int .u8 x0, .int .u8 x1, .int .u8 x2, .int .u8 x3, .int .u8 x4, .int .u8 x5, .int .u8 x6, .int .u8 x7] 5 (0, 0)) := by rw [hwF]; exact blk_drew_ (blk_other_ (by omega) (blk_other_ (by omega) (blk_other_ (by omega) BD1)))
  have hbF : Below w.heap.size w wF := by rw [hwF]; exact below_drew (below_set (below_set (below_set hb2 (Nat.le_refl _)) (by omega)) (by omega))
  clear hwF BN1 BB1 BO1 BD1 hb2
  have HP : NumPost w wF (.slice (some ⟨w.heap.size + 1 + 1 + 1, 0, none⟩) 8 8) [x0, x1, x2, x3, x4, x5, x6, x7] := ⟨Kd.V_mk (xs := [x0, x1, x2, x3, x4, x5, x6, x7]) (Nat.le_refl _) (F_row (xs := [x0, x1, x2, x3, x4, x5, x6, x7]) qD (by show w.heap.size ≤ _; omega) (by simp)), hbF⟩
  clear qD hbF
  refine leaves_cons (f := 19) (args := #[.pointer (some ⟨w.heap.size, 0, none⟩), .pointer (some ⟨w.heap.size + 1, 0, none⟩), .pointer (some ⟨w.heap.size + 1 + 1, 0, none⟩)]) (by simp) (by simp [go_sem]) ?_
  refine (catch19 _ _ _ _).mono ?_
  rintro e u' w'' ⟨rfl, rfl, rfl⟩
  have cN := (blk_cell qN 0).trans (show _ = some (Value.int .u64 r) from rfl)
  have cB := (blk_cell qB 0).trans (show _ = some (Value.slice (some ⟨w.heap.size + 1 + 1 + 1, 0, none⟩) 8 8) from rfl)
  have cO := (blk_cell qO 0).trans (show _ = some (Value.bool true) from rfl)
  simp [Leaves, settle, results, Try.results8, go_sem, cN, cB, cO]
  exact HP
set_option maxHeartbeats 4000000 in
set_option maxRecDepth 100000 in
theorem real_u32 (S1 : Value) (r x0 x1 x2 x3 : Int) (F : Nat) (w : World)
    (hr : r = (F : Int)) (hr1 : r < 4294967296)
    (hG : ∀ W, Below w.heap.size w W → Calls Try.prog 20 #[S1] W fun e W' => e = .returned (.float .f32 F) ∧ W = W')
    (hP : ∀ (g : Nat) (W : World), W.heap[g]? = some (.cells #[.int .u8 0, .int .u8 0, .int .u8 0, .int .u8 0] 5 (0, 0)) → Calls Try.prog 21 #[.slice (some ⟨g, 0, none⟩) 4 4, .float .f32 F] W fun e W' => e = .returned (.tuple #[]) ∧ W' = ((((W.setCell ⟨g, 0, none⟩ (.int .u8 x0)).setCell ⟨g, 1, none⟩ (.int .u8 x1)).setCell ⟨g, 2, none⟩ (.int .u8 x2)).setCell ⟨g, 3, none⟩ (.int .u8 x3))) :
    Calls Try.prog 8 #[S1, .int .i64 4, .bool false, .bool true] w fun e w' => ∃ v, e = .returned (.tuple #[.int .u64 r, v, .bool true]) ∧ NumPost w w' v [x0, x1, x2, x3] := by
  have hmf : ∀ (fn : Fn) (first cap : Array Value) (w : World), (Instr.makeFunc fn first cap).run Try.prog w = .ok (.func fn first cap) w := fun _ _ _ _ => rfl
  have hmk : ∀ w, (Instr.makeSlice 22 (.int .i64 4) (.int .i64 4)).run Try.prog w = .ok (.slice (some ⟨w.heap.size, 0, none⟩) 4 4) (w.alloc (.cells #[.int .u8 0, .int .u8 0, .int .u8 0, .int .u8 0] 5)) := fun _ => by kernel_rfl
  go_enter_defers Try.func8, Try.ntmps8
  go_wp2_with (go_at_call 20; fail)
  clear hmf hmk
  refine calls_at ?_
  intro w0 hw0
  have BN0 : w0.heap[w.heap.size]? = some (.cells #[.int .u64 0] 24 (0, 0)) := by rw [hw0]; exact blk_alloc_ (blk_alloc_ (blk_alloc_ (blk_new_at rfl)))
  have BB0 : w0.heap[w.heap.size + 1]? = some (.cells #[.slice (some ⟨w.heap.size + 1 + 1 + 1, 0, none⟩) 4 4] 22 (0, 0)) := by rw [hw0]; exact blk_alloc_ (blk_alloc_ (blk_new_at (by simp)))
  have BO0 : w0.heap[w.heap.size + 1 + 1]? = some (.cells #[.bool false] 4 (0, 0)) := by rw [hw0]; exact blk_alloc_ (blk_new_at (by simp))
  have BD0 : w0.heap[w.heap.size + 1 + 1 + 1]? = some (.cells #[.int .u8 0, .int .u8 0, .int .u8 0, .int .u8 0] 5 (0, 0)) := by rw [hw0]; exact blk_new_at (by simp)
  have hb0 : Below w.heap.size w w0 := by rw [hw0]; exact below_alloc (below_alloc (below_alloc (below_alloc (Below.refl _ _) _) _) _) _
  clear hw0
  refine (hG w0 hb0).mono ?_
  rintro e w1 ⟨rfl, rfl⟩
  clear hG
  have c0 : w0.cell? ⟨w.heap.size + 1, 0, none⟩ = some (.slice (some ⟨w.heap.size + 1 + 1 + 1, 0, none⟩) 4 4) := (blk_cell BB0 0).trans rfl
  go_wp2_with (go_at_call 21; fail)
  refine (hP _ w0 BD0).mono ?_
  rintro e w2 ⟨rfl, hw2⟩
  clear hP c0
  have BN1 : w2.heap[w.heap.size]? = some (.cells #[.int .u64 0] 24 (0, 0)) := by rw [hw2]; exact far4 (by omega) BN0 (.int .u8 x0) (.int .u8 x1) (.int .u8 x2) (.int .u8 x3)
  have BB1 : w2.heap[w.heap.size + 1]? = some (.cells #[.slice (some ⟨w.heap.size + 1 + 1 + 1, 0, none⟩) 4 4] 22 (0, 0)) := by rw [hw2]; exact far4 (by omega) BB0 (.int .u8 x0) (.int .u8 x1) (.int .u8 x2) (.int .u8 x3)
  have BO1 : w2.heap[w.heap.size + 1 + 1]? = some (.cells #[.bool false] 4 (0, 0)) := by rw [hw2]; exact far4 (by omega) BO0 (.int .u8 x0) (.int .u8 x1) (.int .u8 x2) (.int .u8 x3)
  have BD1 : w2.heap[w.heap.size + 1 + 1 + 1]? = some (.cells #[.int .u8 x0, .int .u8 x1, .int .u8 x2, .int .u8 x3] 5 (0, 0)) := by rw [hw2]; exact put4 BD0 (.int .u8 x0) (.int .u8 x1) (.int .u8 x2) (.int .u8 x3)
  have hb2 : Below w.heap.size w w2 := by rw [hw2]; exact bel4 hb0 (by omega) (.int .u8 x0) (.int .u8 x1) (.int .u8 x2) (.int .u8 x3)
  clear hw2 BN0 BB0 BO0 BD0 hb0
  have cn : w2.cell? ⟨w.heap.size, 0, none⟩ = some (.int .u64 0) := (blk_cell BN1 0).trans rfl
  have fn := blk_frozen BN1 0
  have cb : w2.cell? ⟨w.heap.size + 1, 0, none⟩ = some (.slice (some ⟨w.heap.size + 1 + 1 + 1, 0, none⟩) 4 4) := (blk_cell BB1 0).trans rfl
  have fb := blk_frozen BB1 0
  have co : w2.cell? ⟨w.heap.size + 1 + 1, 0, none⟩ = some (.bool false) := (blk_cell BO1 0).trans rfl
  have fo := blk_frozen BO1 0
  have H1 := Lib.hid (And.intro BN1 (And.intro BB1 (And.intro BO1 (And.intro BD1 hb2))))
  clear BN1 BB1 BO1 BD1 hb2
  have hfb := fbits32 F
  have hr0 : 0 ≤ r := by omega
  have hwr : IntKind.u64.wrap r = r := by simp [IntKind.wrap, IntKind.bits, IntKind.signed]; omega
  rw [← hr] at hfb
  clear hr
  go_wp2_with (simp only [hfb])
  refine wp_region_noPanic ?_
  go_region_with (simp only [hfb])
  all_goals refine NoPanic.normal ?_
  all_goals go_wp2_with (fail)
  all_goals
    obtain ⟨BN1, BB1, BO1, BD1, hb2⟩ := H1.out
    clear H1 cn fn cb fb co fo
    obtain ⟨wF, hwF⟩ : ∃ wF, wF = (((w2.setCell ⟨w.heap.size, 0, none⟩ (.int .u64 r)).setCell ⟨w.heap.size + 1, 0, none⟩ (.slice (some ⟨w.heap.size + 1 + 1 + 1, 0, none⟩) 4 4)).setCell ⟨w.heap.size + 1 + 1, 0, none⟩ (.bool true)).drew := ⟨_, rfl⟩
    rw [← hwF]
    have qN : wF.heap[w.heap.size]? = some (.cells #[.int .u64 r] 24 (0, 0)) := by rw [hwF]; exact blk_drew_ (blk_other_ (by omega) (blk_other_ (by omega) (blk_put_at BN1 rfl)))
    have qB : wF.heap[w.heap.size + 1]? = some (.cells #[.slice (some ⟨w.heap.size + 1 + 1 + 1, 0, none⟩) 4 4] 22 (0, 0)) := by rw [hwF]; exact blk_drew_ (blk_other_ (by omega) (blk_put_at (blk_other_ (by omega) BB1) rfl))
    have qO : wF.heap[w.heap.size + 1 + 1]? = some (.cells #[.bool true] 4 (0, 0)) := by rw [hwF]; exact blk_drew_ (blk_put_at (blk_other_ (by omega) (blk_other_ (by omega) BO1)) rfl)
    have qD : wF.heap[w.heap.size + 1 + 1 + 1]? = some (.cells #[.int .u8 x0, .int .u8 x1, .int .u8 x2, .int .u8 x3] 5 (0, 0)) := by rw [hwF]; exact blk_drew_ (blk_other_ (by omega) (blk_other_ (by omega) (blk_other_ (by omega) BD1)))
    have hbF : Below w.heap.size w wF := by rw [hwF]; exact below_drew (below_set (below_set (below_set hb2 (Nat.le_refl _)) (by omega)) (by omega))
    clear hwF BN1 BB1 BO1 BD1 hb2
    have HP : NumPost w wF (.slice (some ⟨w.heap.size + 1 + 1 + 1, 0, none⟩) 4 4) [x0, x1, x2, x3] := ⟨Kd.V_mk (xs := [x0, x1, x2, x3]) (Nat.le_refl _) (F_row (xs := [x0, x1, x2, x3]) qD (by show w.heap.size ≤ _; omega) (by simp)), hbF⟩
    clear qD hbF
    refine leaves_cons (f := 19) (args := #[.pointer (some ⟨w.heap.size, 0, none⟩), .pointer (some ⟨w.heap.size + 1, 0, none⟩), .pointer (some ⟨w.heap.size + 1 + 1, 0, none⟩)]) (by simp) (by simp [go_sem]) ?_
    refine (catch19 _ _ _ _).mono ?_
    rintro e u' w'' ⟨rfl, rfl, rfl⟩
    have cN := (blk_cell qN 0).trans (show _ = some (Value.int .u64 r) from rfl)
    have cB := (blk_cell qB 0).trans (show _ = some (Value.slice (some ⟨w.heap.size + 1 + 1 + 1, 0, none⟩) 4 4) from rfl)
    have cO := (blk_cell qO 0).trans (show _ = some (Value.bool true) from rfl)
    simp [Leaves, settle, results, Try.results8, go_sem, cN, cB, cO]
    exact HP
set_option maxHeartbeats 4000000 in
set_option maxRecDepth 100000 in
theorem real_u64 (S1 : Value) (r x0 x1 x2 x3 x4 x5 x6 x7 : Int) (F : Nat) (w : World)
    (hr : r = (F : Int)) (hr1 : r < 18446744073709551616)
    (hG : ∀ W, Below w.heap.size w W → Calls Try.prog 23 #[S1] W fun e W' => e = .returned (.float .f64 F) ∧ W = W')
    (hP : ∀ (g : Nat) (W : World), W.heap[g]? = some (.cells #[.int .u8 0, .int .u8 0, .int .u8 0, .int .u8 0, .int .u8 0, .int .u8 0, .int .u8 0, .int .u8 0] 5 (0, 0)) → Calls Try.prog 24 #[.slice (some ⟨g, 0, none⟩) 8 8, .float .f64 F] W fun e W' => e = .returned (.tuple #[]) ∧ W' = ((((((((W.setCell ⟨g, 0, none⟩ (.int .u8 x0)).setCell ⟨g, 1, none⟩ (.int .u8 x1)).setCell ⟨g, 2, none⟩ (.int .u8 x2)).setCell ⟨g, 3, none⟩ (.int .u8 x3)).setCell ⟨g, 4, none⟩ (.int .u8 x4)).setCell ⟨g, 5, none⟩ (.int .u8 x5)).setCell ⟨g, 6, none⟩ (.int .u8 x6)).setCell ⟨g, 7, none⟩ (.int .u8 x7))) :
    Calls Try.prog 8 #[S1, .int .i64 8, .bool false, .bool true] w fun e w' => ∃ v, e = .returned (.tuple #[.int .u64 r, v, .bool true]) ∧ NumPost w w' v [x0, x1, x2, x3, x4, x5, x6, x7] := by
  have hmf : ∀ (fn : Fn) (first cap : Array Value) (w : World), (Instr.makeFunc fn first cap).run Try.prog w = .ok (.func fn first cap) w := fun _ _ _ _ => rfl
  have hmk : ∀ w, (Instr.makeSlice 22 (.int .i64 8) (.int .i64 8)).run Try.prog w = .ok (.slice (some ⟨w.heap.size, 0, none⟩) 8 8) (w.alloc (.cells #[.int .u8 0, .int .u8 0, .int .u8 0, .int .u8 0, .int .u8 0, .int .u8 0, .int .u8 0, .int .u8 0] 5)) := fun _ => by kernel_rfl
  go_enter_defers Try.func8, Try.ntmps8
  go_wp2_with (go_at_call 23; fail)
  clear hmf hmk
  refine calls_at ?_
  intro w0 hw0
  have BN0 : w0.heap[w.heap.size]? = some (.cells #[.int .u64 0] 24 (0, 0)) := by rw [hw0]; exact blk_alloc_ (blk_alloc_ (blk_alloc_ (blk_new_at rfl)))
  have BB0 : w0.heap[w.heap.size + 1]? = some (.cells #[.slice (some ⟨w.heap.size + 1 + 1 + 1, 0, none⟩) 8 8] 22 (0, 0)) := by rw [hw0]; exact blk_alloc_ (blk_alloc_ (blk_new_at (by simp)))
  have BO0 : w0.heap[w.heap.size + 1 + 1]? = some (.cells #[.bool false] 4 (0, 0)) := by rw [hw0]; exact blk_alloc_ (blk_new_at (by simp))
  have BD0 : w0.heap[w.heap.size + 1 + 1 + 1]? = some (.cells #[.int .u8 0, .int .u8 0, .int .u8 0, .int .u8 0, .int .u8 0, .int .u8 0, .int .u8 0, .int .u8 0] 5 (0, 0)) := by rw [hw0]; exact blk_new_at (by simp)
  have hb0 : Below w.heap.size w w0 := by rw [hw0]; exact below_alloc (below_alloc (below_alloc (below_alloc (Below.refl _ _) _) _) _) _
  clear hw0
  refine (hG w0 hb0).mono ?_
  rintro e w1 ⟨rfl, rfl⟩
  clear hG
  have c0 : w0.cell? ⟨w.heap.size + 1, 0, none⟩ = some (.slice (some ⟨w.heap.size + 1 + 1 + 1, 0, none⟩) 8 8) := (blk_cell BB0 0).trans rfl
  go_wp2_with (go_at_call 24; fail)
  refine (hP _ w0 BD0).mono ?_
  rintro e w2 ⟨rfl, hw2⟩
  clear hP c0
  have BN1 : w2.heap[w.heap.size]? = some (.cells #[.int .u64 0] 24 (0, 0)) := by rw [hw2]; exact far8 (by omega) BN0 (.int .u8 x0) (.int .u8 x1) (.int .u8 x2) (.int .u8 x3) (.int .u8 x4) (.int .u8 x5) (.int .u8 x6) (.int .u8 x7)
  have BB1 : w2.heap[w.heap.size + 1]? = some (.cells #[.slice (some ⟨w.heap.size + 1 + 1 + 1, 0, none⟩) 8 8] 22 (0, 0)) := by rw [hw2]; exact far8 (by omega) BB0 (.int .u8 x0) (.int .u8 x1) (.int .u8 x2) (.int .u8 x3) (.int .u8 x4) (.int .u8 x5) (.int .u8 x6) (.int .u8 x7)
  have BO1 : w2.heap[w.heap.size + 1 + 1]? = some (.cells #[.bool false] 4 (0, 0)) := by rw [hw2]; exact far8 (by omega) BO0 (.int .u8 x0) (.int .u8 x1) (.int .u8 x2) (.int .u8 x3) (.int .u8 x4) (.int .u8 x5) (.int .u8 x6) (.int .u8 x7)
  have BD1 : w2.heap[w.heap.size + 1 + 1 + 1]? = some (.cells #[.int .u8 x0, .int .u8 x1, .int .u8 x2, .int .u8 x3, .int .u8 x4, .int .u8 x5, .int .u8 x6, .int .u8 x7] 5 (0, 0)) := by rw [hw2]; exact put8 BD0 (.int .u8 x0) (.int .u8 x1) (.int .u8 x2) (.int .u8 x3) (.int .u8 x4) (.int .u8 x5) (.int .u8 x6) (.int .u8 x7)
  have hb2 : Below w.heap.size w w2 := by rw [hw2]; exact bel8 hb0 (by omega) (.int .u8 x0) (.int .u8 x1) (.int .u8 x2) (.int .u8 x3) (.int .u8 x4) (.int .u8 x5) (.int .u8 x6) (.int .u8 x7)
  clear hw2 BN0 BB0 BO0 BD0 hb0
  have cn : w2.cell? ⟨w.heap.size, 0, none⟩ = some (.int .u64 0) := (blk_cell BN1 0).trans rfl
  have fn := blk_frozen BN1 0
  have cb : w2.cell? ⟨w.heap.size + 1, 0, none⟩ = some (.slice (some ⟨w.heap.size + 1 + 1 + 1, 0, none⟩) 8 8) := (blk_cell BB1 0).trans rfl
  have fb := blk_frozen BB1 0
  have co : w2.cell? ⟨w.heap.size + 1 + 1, 0, none⟩ = some (.bool false) := (blk_cell BO1 0).trans rfl
  have fo := blk_frozen BO1 0
  have H1 := Lib.hid (And.intro BN1 (And.intro BB1 (And.intro BO1 (And.intro BD1 hb2))))
  clear BN1 BB1 BO1 BD1 hb2
  have hfb := fbits64 F
  have hr0 : 0 ≤ r := by omega
  have hwr : IntKind.u64.wrap r = r := by simp [IntKind.wrap, IntKind.bits, IntKind.signed]; omega
  rw [← hr] at hfb
  clear hr
  go_wp2_with (simp only [hfb])
  refine wp_region_noPanic ?_
  go_region_with (simp only [hfb])
  all_goals refine NoPanic.normal ?_
  all_goals go_wp2_with (fail)
  all_goals
    obtain ⟨BN1, BB1, BO1, BD1, hb2⟩ := H1.out
    clear H1 cn fn cb fb co fo
    obtain ⟨wF, hwF⟩ : ∃ wF, wF = (((w2.setCell ⟨w.heap.size, 0, none⟩ (.int .u64 r)).setCell ⟨w.heap.size + 1, 0, none⟩ (.slice (some ⟨w.heap.size + 1 + 1 + 1, 0, none⟩) 8 8)).setCell ⟨w.heap.size + 1 + 1, 0, none⟩ (.bool true)).drew := ⟨_, rfl⟩
    rw [← hwF]
    have qN : wF.heap[w.heap.size]? = some (.cells #[.int .u64 r] 24 (0, 0)) := by rw [hwF]; exact blk_drew_ (blk_other_ (by omega) (blk_other_ (by omega) (blk_put_at BN1 rfl)))
    have qB : wF.heap[w.heap.size + 1]? = some (.cells #[.slice (some ⟨w.heap.size + 1 + 1 + 1, 0, none⟩) 8 8] 22 (0, 0)) := by rw [hwF]; exact blk_drew_ (blk_other_ (by omega) (blk_put_at (blk_other_ (by omega) BB1) rfl))
    have qO : wF.heap[w.heap.size + 1 + 1]? = some (.cells #[.bool true] 4 (0, 0)) := by rw [hwF]; exact blk_drew_ (blk_put_at (blk_other_ (by omega) (blk_other_ (by omega) BO1)) rfl)
    have qD : wF.heap[w.heap.size + 1 + 1 + 1]? = some (.cells #[.int .u8 x0, .int .u8 x1, .int .u8 x2, .int .u8 x3, .int .u8 x4, .int .u8 x5, .int .u8 x6, .int .u8 x7] 5 (0, 0)) := by rw [hwF]; exact blk_drew_ (blk_other_ (by omega) (blk_other_ (by omega) (blk_other_ (by omega) BD1)))
    have hbF : Below w.heap.size w wF := by rw [hwF]; exact below_drew (below_set (below_set (below_set hb2 (Nat.le_refl _)) (by omega)) (by omega))
    clear hwF BN1 BB1 BO1 BD1 hb2
    have HP : NumPost w wF (.slice (some ⟨w.heap.size + 1 + 1 + 1, 0, none⟩) 8 8) [x0, x1, x2, x3, x4, x5, x6, x7] := ⟨Kd.V_mk (xs := [x0, x1, x2, x3, x4, x5, x6, x7]) (Nat.le_refl _) (F_row (xs := [x0, x1, x2, x3, x4, x5, x6, x7]) qD (by show w.heap.size ≤ _; omega) (by simp)), hbF⟩
    clear qD hbF
    refine leaves_cons (f := 19) (args := #[.pointer (some ⟨w.heap.size, 0, none⟩), .pointer (some ⟨w.heap.size + 1, 0, none⟩), .pointer (some ⟨w.heap.size + 1 + 1, 0, none⟩)]) (by simp) (by simp [go_sem]) ?_
    refine (catch19 _ _ _ _).mono ?_
    rintro e u' w'' ⟨rfl, rfl, rfl⟩
    have cN := (blk_cell qN 0).trans (show _ = some (Value.int .u64 r) from rfl)
    have cB := (blk_cell qB 0).trans (show _ = some (Value.slice (some ⟨w.heap.size + 1 + 1 + 1, 0, none⟩) 8 8) from rfl)
    have cO := (blk_cell qO 0).trans (show _ = some (Value.bool true) from rfl)
    simp [Leaves, settle, results, Try.results8, go_sem, cN, cB, cO]
    exact HP
set_option maxHeartbeats 2000000 in
set_option maxRecDepth 100000 in
theorem signed_i8 (S1 : Value) (v r x0 : Int) (g : Nat) (w : World) (BD : w.heap[g]? = some (.cells #[.int .u8 0] 5 (0, 0))) (hr : v % 256 = r)
    (hG : ∀ W, w = W → Calls Try.prog 45 #[S1] W fun e W' => e = .returned (.int .i8 v) ∧ W = W')
    (hP : ∀ (g : Nat) (W : World), W.heap[g]? = some (.cells #[.int .u8 0] 5 (0, 0)) → Calls Try.prog 46 #[.slice (some ⟨g, 0, none⟩) 1 1, .int .i8 v] W fun e W' => e = .returned (.tuple #[]) ∧ W' = (W.setCell ⟨g, 0, none⟩ (.int .u8 x0))) :
    Calls Try.prog 26 #[S1, .int .i64 1, .slice (some ⟨g, 0, none⟩) 1 1] w fun e w' => e = .returned (.tuple #[.int .u64 r, .slice (some ⟨g, 0, none⟩) 1 1, .bool true]) ∧ w' = (w.setCell ⟨g, 0, none⟩ (.int .u8 x0)) := by
  have hP' := hP g w BD
  have hG' := hG w rfl
  clear hP hG BD
  go_enter Try.func26, Try.ntmps26
  go_wp2_with (first | (go_at_call 45; (with_reducible refine hG'.mono ?_); rintro e w1 ⟨rfl, rfl⟩) | (go_at_call 46; (with_reducible refine hP'.mono ?_); rintro e w2 ⟨rfl, rfl⟩))
  go_ret3
  exact ⟨rfl, rfl⟩
set_option maxHeartbeats 2000000 in
set_option maxRecDepth 100000 in
theorem signed_i16 (S1 : Value) (v r x0 x1 : Int) (g : Nat) (w : World) (BD : w.heap[g]? = some (.cells #[.int .u8 0, .int .u8 0] 5 (0, 0))) (hr : IntKind.u64.wrap (IntKind.u16.wrap v) = r)
    (hG : ∀ W, w = W → Calls Try.prog 47 #[S1] W fun e W' => e = .returned (.int .i16 v) ∧ W = W')
    (hP : ∀ (g : Nat) (W : World), W.heap[g]? = some (.cells #[.int .u8 0, .int .u8 0] 5 (0, 0)) → Calls Try.prog 48 #[.slice (some ⟨g, 0, none⟩) 2 2, .int .i16 v] W fun e W' => e = .returned (.tuple #[]) ∧ W' = ((W.setCell ⟨g, 0, none⟩ (.int .u8 x0)).setCell ⟨g, 1, none⟩ (.int .u8 x1))) :
    Calls Try.prog 26 #[S1, .int .i64 2, .slice (some ⟨g, 0, none⟩) 2 2] w fun e w' => e = .returned (.tuple #[.int .u64 r, .slice (some ⟨g, 0, none⟩) 2 2, .bool true]) ∧ w' = ((w.setCell ⟨g, 0, none⟩ (.int .u8 x0)).setCell ⟨g, 1, none⟩ (.int .u8 x1)) := by
  have hP' := hP g w BD
  have hG' := hG w rfl
  clear hP hG BD
  go_enter Try.func26, Try.ntmps26
  go_wp2_with (first | (go_at_call 47; (with_reducible refine hG'.mono ?_); rintro e w1 ⟨rfl, rfl⟩) | (go_at_call 48; (with_reducible refine hP'.mono ?_); rintro e w2 ⟨rfl, rfl⟩))
  go_ret3
  exact ⟨rfl, rfl⟩
set_option maxHeartbeats 2000000 in
set_option maxRecDepth 100000 in
theorem signed_i32 (S1 : Value) (v r x0 x1 x2 x3 : Int) (g : Nat) (w : World) (BD : w.heap[g]? = some (.cells #[.int .u8 0, .int .u8 0, .int .u8 0, .int .u8 0] 5 (0, 0))) (hr : v % 4294967296 = r)
    (hG : ∀ W, w = W → Calls Try.prog 49 #[S1] W fun e W' => e = .returned (.int .i32 v) ∧ W = W')
    (hP : ∀ (g : Nat) (W : World), W.heap[g]? = some (.cells #[.int .u8 0, .int .u8 0, .int .u8 0, .int .u8 0] 5 (0, 0)) → Calls Try.prog 50 #[.slice (some ⟨g, 0, none⟩) 4 4, .int .i32 v] W fun e W' => e = .returned (.tuple #[]) ∧ W' = ((((W.setCell ⟨g, 0, none⟩ (.int .u8 x0)).setCell ⟨g, 1, none⟩ (.int .u8 x1)).setCell ⟨g, 2, none⟩ (.int .u8 x2)).setCell ⟨g, 3, none⟩ (.int .u8 x3))) :
    Calls Try.prog 26 #[S1, .int .i64 4, .slice (some ⟨g, 0, none⟩) 4 4] w fun e w' => e = .returned (.tuple #[.int .u64 r, .slice (some ⟨g, 0, none⟩) 4 4, .bool true]) ∧ w' = ((((w.setCell ⟨g, 0, none⟩ (.int .u8 x0)).setCell ⟨g, 1, none⟩ (.int .u8 x1)).setCell ⟨g, 2, none⟩ (.int .u8 x2)).setCell ⟨g, 3, none⟩ (.int .u8 x3)) := by
  have hP' := hP g w BD
  have hG' := hG w rfl
  clear hP hG BD
  go_enter Try.func26, Try.ntmps26
  go_wp2_with (first | (go_at_call 49; (with_reducible refine hG'.mono ?_); rintro e w1 ⟨rfl, rfl⟩) | (go_at_call 50; (with_reducible refine hP'.mono ?_); rintro e w2 ⟨rfl, rfl⟩))
  go_ret3
  exact ⟨rfl, rfl⟩
set_option maxHeartbeats 2000000 in
set_option maxRecDepth 100000 in
theorem signed_i64 (S1 : Value) (v r x0 x1 x2 x3 x4 x5 x6 x7 : Int) (g : Nat) (w : World) (BD : w.heap[g]? = some (.cells #[.int .u8 0, .int .u8 0, .int .u8 0, .int .u8 0, .int .u8 0, .int .u8 0, .int .u8 0, .int .u8 0] 5 (0, 0))) (hr : IntKind.u64.wrap v = r)
    (hG : ∀ W, w = W → Calls Try.prog 51 #[S1] W fun e W' => e = .returned (.int .i64 v) ∧ W = W')
    (hP : ∀ (g : Nat) (W : World), W.heap[g]? = some (.cells #[.int .u8 0, .int .u8 0, .int .u8 0, .int .u8 0, .int .u8 0, .int .u8 0, .int .u8 0, .int .u8 0] 5 (0, 0)) → Calls Try.prog 52 #[.slice (some ⟨g, 0, none⟩) 8 8, .int .i64 v] W fun e W' => e = .returned (.tuple #[]) ∧ W' = ((((((((W.setCell ⟨g, 0, none⟩ (.int .u8 x0)).setCell ⟨g, 1, none⟩ (.int .u8 x1)).setCell ⟨g, 2, none⟩ (.int .u8 x2)).setCell ⟨g, 3, none⟩ (.int .u8 x3)).setCell ⟨g, 4, none⟩ (.int .u8 x4)).setCell ⟨g, 5, none⟩ (.int .u8 x5)).setCell ⟨g, 6, none⟩ (.int .u8 x6)).setCell ⟨g, 7, none⟩ (.int .u8 x7))) :
    Calls Try.prog 26 #[S1, .int .i64 8, .slice (some ⟨g, 0, none⟩) 8 8] w fun e w' => e = .returned (.tuple #[.int .u64 r, .slice (some ⟨g, 0, none⟩) 8 8, .bool true]) ∧ w' = ((((((((w.setCell ⟨g, 0, none⟩ (.int .u8 x0)).setCell ⟨g, 1, none⟩ (.int .u8 x1)).setCell ⟨g, 2, none⟩ (.int .u8 x2)).setCell ⟨g, 3, none⟩ (.int .u8 x3)).setCell ⟨g, 4, none⟩ (.int .u8 x4)).setCell ⟨g, 5, none⟩ (.int .u8 x5)).setCell ⟨g, 6, none⟩ (.int .u8 x6)).setCell ⟨g, 7, none⟩ (.int .u8 x7)) := by
  have hP' := hP g w BD
  have hG' := hG w rfl
  clear hP hG BD
  go_enter Try.func26, Try.ntmps26
  go_wp2_with (first | (go_at_call 51; (with_reducible refine hG'.mono ?_); rintro e w1 ⟨rfl, rfl⟩) | (go_at_call 52; (with_reducible refine hP'.mono ?_); rintro e w2 ⟨rfl, rfl⟩))
  go_ret3
  exact ⟨rfl, rfl⟩
set_option maxHeartbeats 4000000 in
set_option maxRecDepth 100000 in
theorem snum_1 (S1 : Value) (r x0 : Int) (w : World)
    (hS : ∀ (g : Nat) (W : World), Below w.heap.size w W → W.heap[g]? = some (.cells #[.int .u8 0] 5 (0, 0)) → Calls Try.prog 26 #[S1, .int .i64 1, .slice (some ⟨g, 0, none⟩) 1 1] W fun e W' => e = .returned (.tuple #[.int .u64 r, .slice (some ⟨g, 0, none⟩) 1 1, .bool true]) ∧ W' = (W.setCell ⟨g, 0, none⟩ (.int .u8 x0))) :
    Calls Try.prog 8 #[S1, .int .i64 1, .bool true, .bool false] w fun e w' => ∃ v, e = .returned (.tuple #[.int .u64 r, v, .bool true]) ∧ NumPost w w' v [x0] := by
  have hmf : ∀ (fn : Fn) (first cap : Array Value) (w : World), (Instr.makeFunc fn first cap).run Try.prog w = .ok (.func fn first cap) w := fun _ _ _ _ => rfl
  have hmk : ∀ w, (Instr.makeSlice 22 (.int .i64 1) (.int .i64 1)).run Try.prog w = .ok (.slice (some ⟨w.heap.size, 0, none⟩) 1 1) (w.alloc (.cells #[.int .u8 0] 5)) := fun _ => by kernel_rfl
  go_enter_defers Try.func8, Try.ntmps8
  go_wp2_with (go_at_call 26; fail)
  clear hmf hmk
  refine calls_at ?_
  intro w0 hw0
  have BN0 : w0.heap[w.heap.size]? = some (.cells #[.int .u64 0] 24 (0, 0)) := by rw [hw0]; exact blk_alloc_ (blk_alloc_ (blk_alloc_ (blk_new_at rfl)))
  have BB0 : w0.heap[w.heap.size + 1]? = some (.cells #[.slice (some ⟨w.heap.size + 1 + 1 + 1, 0, none⟩) 1 1] 22 (0, 0)) := by rw [hw0]; exact blk_alloc_ (blk_alloc_ (blk_new_at (by simp)))
  have BO0 : w0.heap[w.heap.size + 1 + 1]? = some (.cells #[.bool false] 4 (0, 0)) := by rw [hw0]; exact blk_alloc_ (blk_new_at (by simp))
  have BD0 : w0.heap[w.heap.size + 1 + 1 + 1]? = some (.cells #[.int .u8 0] 5 (0, 0)) := by rw [hw0]; exact blk_new_at (by simp)
  have hb0 : Below w.heap.size w w0 := by rw [hw0]; exact below_alloc (below_alloc (below_alloc (below_alloc (Below.refl _ _) _) _) _) _
  clear hw0
  refine (hS _ w0 hb0 BD0).mono ?_
  rintro e w2 ⟨rfl, hw2⟩
  clear hS
  have BN1 : w2.heap[w.heap.size]? = some (.cells #[.int .u64 0] 24 (0, 0)) := by rw [hw2]; exact far1 (by omega) BN0 (.int .u8 x0)
  have BB1 : w2.heap[w.heap.size + 1]? = some (.cells #[.slice (some ⟨w.heap.size + 1 + 1 + 1, 0, none⟩) 1 1] 22 (0, 0)) := by rw [hw2]; exact far1 (by omega) BB0 (.int .u8 x0)
  have BO1 : w2.heap[w.heap.size + 1 + 1]? = some (.cells #[.bool false] 4 (0, 0)) := by rw [hw2]; exact far1 (by omega) BO0 (.int .u8 x0)
  have BD1 : w2.heap[w.heap.size + 1 + 1 + 1]? = some (.cells #[.int .u8 x0] 5 (0, 0)) := by rw [hw2]; exact put1 BD0 (.int .u8 x0)
  have hb2 : Below w.heap.size w w2 := by rw [hw2]; exact bel1 hb0 (by omega) (.int .u8 x0)
  clear hw2 BN0 BB0 BO0 BD0 hb0
  have cn : w2.cell? ⟨w.heap.size, 0, none⟩ = some (.int .u64 0) := (blk_cell BN1 0).trans rfl
  have fn := blk_frozen BN1 0
  have cb : w2.cell? ⟨w.heap.size + 1, 0, none⟩ = some (.slice (some ⟨w.heap.size + 1 + 1 + 1, 0, none⟩) 1 1) := (blk_cell BB1 0).trans rfl
  have fb := blk_frozen BB1 0
  have co : w2.cell? ⟨w.heap.size + 1 + 1, 0, none⟩ = some (.bool false) := (blk_cell BO1 0).trans rfl
  have fo := blk_frozen BO1 0
  have H1 := Lib.hid (And.intro BN1 (And.intro BB1 (And.intro BO1 (And.intro BD1 hb2))))
  clear BN1 BB1 BO1 BD1 hb2
  go_wp2_with (fail)
  obtain ⟨BN1, BB1, BO1, BD1, hb2⟩ := H1.out
  clear H1 cn fn cb fb co fo
  obtain ⟨wF, hwF⟩ : ∃ wF, wF = (((w2.setCell ⟨w.heap.size, 0, none⟩ (.int .u64 r)).setCell ⟨w.heap.size + 1, 0, none⟩ (.slice (some ⟨w.heap.size + 1 + 1 + 1, 0, none⟩) 1 1)).setCell ⟨w.heap.size + 1 + 1, 0, none⟩ (.bool true)) := ⟨_, rfl⟩
  rw [← hwF]
  have qN : wF.heap[w.heap.size]? = some (.cells #[.int .u64 r] 24 (0, 0)) := by rw [hwF]; exact (blk_other_ (by omega) (blk_other_ (by omega) (blk_put_at BN1 rfl)))
  have qB : wF.heap[w.heap.size + 1]? = some (.cells #[.slice (some ⟨w.heap.size + 1 + 1 + 1, 0, none⟩) 1 1] 22 (0, 0)) := by rw [hwF]; exact (blk_other_ (by omega) (blk_put_at (blk_other_ (by omega) BB1) rfl))
  have qO : wF.heap[w.heap.size + 1 + 1]? = some (.cells #[.bool true] 4 (0, 0)) := by rw [hwF]; exact (blk_put_at (blk_other_ (by omega) (blk_other_ (by omega) BO1)) rfl)
  have qD : wF.heap[w.heap.size + 1 + 1 + 1]? = some (.cells #[.int .u8 x0] 5 (0, 0)) := by rw [hwF]; exact (blk_other_ (by omega) (blk_other_ (by omega) (blk_other_ (by omega) BD1)))
  have hbF : Below w.heap.size w wF := by rw [hwF]; exact (below_set (below_set (below_set hb2 (Nat.le_refl _)) (by omega)) (by omega))
  clear hwF BN1 BB1 BO1 BD1 hb2
  have HP : NumPost w wF (.slice (some ⟨w.heap.size + 1 + 1 + 1, 0, none⟩) 1 1) [x0] := ⟨Kd.V_mk (xs := [x0]) (Nat.le_refl _) (F_row (xs := [x0]) qD (by show w.heap.size ≤ _; omega) (by simp)), hbF⟩
  clear qD hbF
  refine leaves_cons (f := 19) (args := #[.pointer (some ⟨w.heap.size, 0, none⟩), .pointer (some ⟨w.heap.size + 1, 0, none⟩), .pointer (some ⟨w.heap.size + 1 + 1, 0, none⟩)]) (by simp) (by simp [go_sem]) ?_
  refine (catch19 _ _ _ _).mono ?_
  rintro e u' w'' ⟨rfl, rfl, rfl⟩
  have cN := (blk_cell qN 0).trans (show _ = some (Value.int .u64 r) from rfl)
  have cB := (blk_cell qB 0).trans (show _ = some (Value.slice (some ⟨w.heap.size + 1 + 1 + 1, 0, none⟩) 1 1) from rfl)
  have cO := (blk_cell qO 0).trans (show _ = some (Value.bool true) from rfl)
  simp [Leaves, settle, results, Try.results8, go_sem, cN, cB, cO]
  exact HP
set_option maxHeartbeats 4000000 in
set_option maxRecDepth 100000 in
theorem snum_2 (S1 : Value) (r x0 x1 : Int) (w : World)
    (hS : ∀ (g : Nat) (W : World), Below w.heap.size w W → W.heap[g]? = some (.cells #[.int .u8 0, .int .u8 0] 5 (0, 0)) → Calls Try.prog 26 #[S1, .int .i64 2, .slice (some ⟨g, 0, none⟩) 2 2] W fun e W' => e = .returned (.tuple #[.int .u64 r, .slice (some ⟨g, 0, none⟩) 2 2, .bool true]) ∧ W' = ((W.setCell ⟨g, 0, none⟩ (.int .u8 x0)).setCell ⟨g, 1, none⟩ (.int .u8 x1))) :
    Calls Try.prog 8 #[S1, .int .i64 2, .bool true, .bool false] w fun e w' => ∃ v, e = .returned (.tuple #[.int .u64 r, v, .bool true]) ∧ NumPost w w' v [x0, x1] := by
  have hmf : ∀ (fn : Fn) (first cap : Array Value) (w : World), (Instr.makeFunc fn first cap).run Try.prog w = .ok (.func fn first cap) w := fun _ _ _ _ => rfl
  have hmk : ∀ w, (Instr.makeSlice 22 (.int .i64 2) (.int .i64 2)).run Try.prog w = .ok (.slice (some ⟨w.heap.size, 0, none⟩) 2 2) (w.alloc (.cells #[.int .u8 0, .int .u8 0] 5)) := fun _ => by kernel_rfl
  go_enter_defers Try.func8, Try.ntmps8
  go_wp2_with (go_at_call 26; fail)
  clear hmf hmk
  refine calls_at ?_
  intro w0 hw0
  have BN0 : w0.heap[w.heap.size]? = some (.cells #[.int .u64 0] 24 (0, 0)) := by rw [hw0]; exact blk_alloc_ (blk_alloc_ (blk_alloc_ (blk_new_at rfl)))
  have BB0 : w0.heap[w.heap.size + 1]? = some (.cells #[.slice (some ⟨w.heap.size + 1 + 1 + 1, 0, none⟩) 2 2] 22 (0, 0)) := by rw [hw0]; exact blk_alloc_ (blk_alloc_ (blk_new_at (by simp)))
  have BO0 : w0.heap[w.heap.size + 1 + 1]? = some (.cells #[.bool false] 4 (0, 0)) := by rw [hw0]; exact blk_alloc_ (blk_new_at (by simp))
  have BD0 : w0.heap[w.heap.size + 1 + 1 + 1]? = some (.cells #[.int .u8 0, .int .u8 0] 5 (0, 0)) := by rw [hw0]; exact blk_new_at (by simp)
  have hb0 : Below w.heap.size w w0 := by rw [hw0]; exact below_alloc (below_alloc (below_alloc (below_alloc (Below.refl _ _) _) _) _) _
  clear hw0
  refine (hS _ w0 hb0 BD0).mono ?_
  rintro e w2 ⟨rfl, hw2⟩
  clear hS
  have BN1 : w2.heap[w.heap.size]? = some (.cells #[.int .u64 0] 24 (0, 0)) := by rw [hw2]; exact far2 (by omega) BN0 (.int .u8 x0) (.int .u8 x1)
  have BB1 : w2.heap[w.heap.size + 1]? = some (.cells #[.slice (some ⟨w.heap.size + 1 + 1 + 1, 0, none⟩) 2 2] 22 (0, 0)) := by rw [hw2]; exact far2 (by omega) BB0 (.int .u8 x0) (.int .u8 x1)
  have BO1 : w2.heap[w.heap.size + 1 + 1]? = some (.cells #[.bool false] 4 (0, 0)) := by rw [hw2]; exact far2 (by omega) BO0 (.int .u8 x0) (.int .u8 x1)
  have BD1 : w2.heap[w.heap.size + 1 + 1 + 1]? = some (.cells #[.int .u8 x0, .int .u8 x1] 5 (0, 0)) := by rw [hw2]; exact put2 BD0 (.int .u8 x0) (.int .u8 x1)
  have hb2 : Below w.heap.size w w2 := by rw [hw2]; exact bel2 hb0 (by omega) (.int .u8 x0) (.int .u8 x1)
  clear hw2 BN0 BB0 BO0 BD0 hb0
  have cn : w2.cell? ⟨w.heap.size, 0, none⟩ = some (.int .u64 0) := (blk_cell BN1 0).trans rfl
  have fn := blk_frozen BN1 0
  have cb : w2.cell? ⟨w.heap.size + 1, 0, none⟩ = some (.slice (some ⟨w.heap.size + 1 + 1 + 1, 0, none⟩) 2 2) := (blk_cell BB1 0).trans rfl
  have fb := blk_frozen BB1 0
  have co : w2.cell? ⟨w.heap.size + 1 + 1, 0, none⟩ = some (.bool false) := (blk_cell BO1 0).trans rfl
  have fo := blk_frozen BO1 0
  have H1 := Lib.hid (And.intro BN1 (And.intro BB1 (And.intro BO1 (And.intro BD1 hb2))))
  clear BN1 BB1 BO1 BD1 hb2
  go_wp2_with (fail)
  obtain ⟨BN1, BB1, BO1, BD1, hb2⟩ := H1.out
  clear H1 cn fn cb fb co fo
  obtain ⟨wF, hwF⟩ : ∃ wF, wF = (((w2.setCell ⟨w.heap.size, 0, none⟩ (.int .u64 r)).setCell ⟨w.heap.size + 1, 0, none⟩ (.slice (some ⟨w.heap.size + 1 + 1 + 1, 0, none⟩) 2 2)).setCell ⟨w.heap.size + 1 + 1, 0, none⟩ (.bool true)) := ⟨_, rfl⟩
  rw [← hwF]
  have qN : wF.heap[w.heap.size]? = some (.cells #[.int .u64 r] 24 (0, 0)) := by rw [hwF]; exact (blk_other_ (by omega) (blk_other_ (by omega) (blk_put_at BN1 rfl)))
  have qB : wF.heap[w.heap.size + 1]? = some (.cells #[.slice (some ⟨w.heap.size + 1 + 1 + 1, 0, none⟩) 2 2] 22 (0, 0)) := by rw [hwF]; exact (blk_other_ (by omega) (blk_put_at (blk_other_ (by omega) BB1) rfl))
  have qO : wF.heap[w.heap.size + 1 + 1]? = some (.cells #[.bool true] 4 (0, 0)) := by rw [hwF]; exact (blk_put_at (blk_other_ (by omega) (blk_other_ (by omega) BO1)) rfl)
  have qD : wF.heap[w.heap.size + 1 + 1 + 1]? = some (.cells #[.int .u8 x0, .int .u8 x1] 5 (0, 0)) := by rw [hwF]; exact (blk_other_ (by omega) (blk_other_ (by omega) (blk_other_ (by omega) BD1)))
  have hbF : Below w.heap.size w wF := by rw [hwF]; exact (below_set (below_set (below_set hb2 (Nat.le_refl _)) (by omega)) (by omega))
  clear hwF BN1 BB1 BO1 BD1 hb2
  have HP : NumPost w wF (.slice (some ⟨w.heap.size + 1 + 1 + 1, 0, none⟩) 2 2) [x0, x1] := ⟨Kd.V_mk (xs := [x0, x1]) (Nat.le_refl _) (F_row (xs := [x0, x1]) qD (by show w.heap.size ≤ _; omega) (by simp)), hbF⟩
  clear qD hbF
  refine leaves_cons (f := 19) (args := #[.pointer (some ⟨w.heap.size, 0, none⟩), .pointer (some ⟨w.heap.size + 1, 0, none⟩), .pointer (some ⟨w.heap.size + 1 + 1, 0, none⟩)]) (by simp) (by simp [go_sem]) ?_
  refine (catch19 _ _ _ _).mono ?_
  rintro e u' w'' ⟨rfl, rfl, rfl⟩
  have cN := (blk_cell qN 0).trans (show _ = some (Value.int .u64 r) from rfl)
  have cB := (blk_cell qB 0).trans (show _ = some (Value.slice (some ⟨w.heap.size + 1 + 1 + 1, 0, none⟩) 2 2) from rfl)
  have cO := (blk_cell qO 0).trans (show _ = some (Value.bool true) from rfl)
  simp [Leaves, settle, results, Try.results8, go_sem, cN, cB, cO]
  exact HP
set_option maxHeartbeats 4000000 in
set_option maxRecDepth 100000 in
theorem snum_4 (S1 : Value) (r x0 x1 x2 x3 : Int) (w : World)
    (hS : ∀ (g : Nat) (W : World), Below w.heap.size w W → W.heap[g]? = some (.cells #[.int .u8 0, .int .u8 0, .int .u8 0, .int .u8 0] 5 (0, 0)) → Calls Try.prog 26 #[S1, .int .i64 4, .slice (some ⟨g, 0, none⟩) 4 4] W fun e W' => e = .returned (.tuple #[.int .u64 r, .slice (some ⟨g, 0, none⟩) 4 4, .bool true]) ∧ W' = ((((W.setCell ⟨g, 0, none⟩ (.int .u8 x0)).setCell ⟨g, 1, none⟩ (.int .u8 x1)).setCell ⟨g, 2, none⟩ (.int .u8 x2)).setCell ⟨g, 3, none⟩ (.int .u8 x3))) :
    Calls Try.prog 8 #[S1, .int .i64 4, .bool true, .bool false] w fun e w' => ∃ v, e = .returned (.tuple #[.int .u64 r, v, .bool true]) ∧ NumPost w w' v [x0, x1, x2, x3] := by
  have hmf : ∀ (fn : Fn) (first cap : Array Value) (w : World), (Instr.makeFunc fn first cap).run Try.prog w = .ok (.func fn first cap) w := fun _ _ _ _ => rfl
  have hmk : ∀ w, (Instr.makeSlice 22 (.int .i64 4) (.int .i64 4)).run Try.prog w = .ok (.slice (some ⟨w.heap.size, 0, none⟩) 4 4) (w.alloc (.cells #[.int .u8 0, .int .u8 0, .int .u8 0, .int .u8 0] 5)) := fun _ => by kernel_rfl
  go_enter_defers Try.func8, Try.ntmps8
  go_wp2_with (go_at_call 26; fail)
  clear hmf hmk
  refine calls_at ?_
  intro w0 hw0
  have BN0 : w0.heap[w.heap.size]? = some (.cells #[.int .u64 0] 24 (0, 0)) := by rw [hw0]; exact blk_alloc_ (blk_alloc_ (blk_alloc_ (blk_new_at rfl)))
  have BB0 : w0.heap[w.heap.size + 1]? = some (.cells #[.slice (some ⟨w.heap.size + 1 + 1 + 1, 0, none⟩) 4 4] 22 (0, 0)) := by rw [hw0]; exact blk_alloc_ (blk_alloc_ (blk_new_at (by simp)))
  have BO0 : w0.heap[w.heap.size + 1 + 1]? = some (.cells #[.bool false] 4 (0, 0)) := by rw [hw0]; exact blk_alloc_ (blk_new_at (by simp))
  have BD0 : w0.heap[w.heap.size + 1 + 1 + 1]? = some (.cells #[.int .u8 0, .int .u8 0, .int .u8 0, .int .u8 0] 5 (0, 0)) := by rw [hw0]; exact blk_new_at (by simp)
  have hb0 : Below w.heap.size w w0 := by rw [hw0]; exact below_alloc (below_alloc (below_alloc (below_alloc (Below.refl _ _) _) _) _) _
  clear hw0
  refine (hS _ w0 hb0 BD0).mono ?_
  rintro e w2 ⟨rfl, hw2⟩
  clear hS
  have BN1 : w2.heap[w.heap.size]? = some (.cells #[.int .u64 0] 24 (0, 0)) := by rw [hw2]; exact far4 (by omega) BN0 (.int .u8 x0) (.int .u8 x1) (.int .u8 x2) (.int .u8 x3)
  have BB1 : w2.heap[w.heap.size + 1]? = some (.cells #[.slice (some ⟨w.heap.size + 1 + 1 + 1, 0, none⟩) 4 4] 22 (0, 0)) := by rw [hw2]; exact far4 (by omega) BB0 (.int .u8 x0) (.int .u8 x1) (.int .u8 x2) (.int .u8 x3)
  have BO1 : w2.heap[w.heap.size + 1 + 1]? = some (.cells #[.bool false] 4 (0, 0)) := by rw [hw2]; exact far4 (by omega) BO0 (.int .u8 x0) (.int .u8 x1) (.int .u8 x2) (.int .u8 x3)
  have BD1 : w2.heap[w.heap.size + 1 + 1 + 1]? = some (.cells #[.int .u8 x0, .int .u8 x1, .int .u8 x2, .int .u8 x3] 5 (0, 0)) := by rw [hw2]; exact put4 BD0 (.int .u8 x0) (.int .u8 x1) (.int .u8 x2) (.int .u8 x3)
  have hb2 : Below w.heap.size w w2 := by rw [hw2]; exact bel4 hb0 (by omega) (.int .u8 x0) (.int .u8 x1) (.int .u8 x2) (.int .u8 x3)
  clear hw2 BN0 BB0 BO0 BD0 hb0
  have cn : w2.cell? ⟨w.heap.size, 0, none⟩ = some (.int .u64 0) := (blk_cell BN1 0).trans rfl
  have fn := blk_frozen BN1 0
  have cb : w2.cell? ⟨w.heap.size + 1, 0, none⟩ = some (.slice (some ⟨w.heap.size + 1 + 1 + 1, 0, none⟩) 4 4) := (blk_cell BB1 0).trans rfl
  have fb := blk_frozen BB1 0
  have co : w2.cell? ⟨w.heap.size + 1 + 1, 0, none⟩ = some (.bool false) := (blk_cell BO1 0).trans rfl
  have fo := blk_frozen BO1 0
  have H1 := Lib.hid (And.intro BN1 (And.intro BB1 (And.intro BO1 (And.intro BD1 hb2))))
  clear BN1 BB1 BO1 BD1 hb2
  go_wp2_with (fail)
  obtain ⟨BN1, BB1, BO1, BD1, hb2⟩ := H1.out
  clear H1 cn fn cb fb co fo
  obtain ⟨wF, hwF⟩ : ∃ wF, wF = (((w2.setCell ⟨w.heap.size, 0, none⟩ (.int .u64 r)).setCell ⟨w.heap.size + 1, 0, none⟩ (.slice (some ⟨w.heap.size + 1 + 1 + 1, 0, none⟩) 4 4)).setCell ⟨w.heap.size + 1 + 1, 0, none⟩ (.bool true)) := ⟨_, rfl⟩
  rw [← hwF]
  have qN : wF.heap[w.heap.size]? = some (.cells #[.int .u64 r] 24 (0, 0)) := by rw [hwF]; exact (blk_other_ (by omega) (blk_other_ (by omega) (blk_put_at BN1 rfl)))
  have qB : wF.heap[w.heap.size + 1]? = some (.cells #[.slice (some ⟨w.heap.size + 1 + 1 + 1, 0, none⟩) 4 4] 22 (0, 0)) := by rw [hwF]; exact (blk_other_ (by omega) (blk_put_at (blk_other_ (by omega) BB1) rfl))
  have qO : wF.heap[w.heap.size + 1 + 1]? = some (.cells #[.bool true] 4 (0, 0)) := by rw [hwF]; exact (blk_put_at (blk_other_ (by omega) (blk_other_ (by omega) BO1)) rfl)
  have qD : wF.heap[w.heap.size + 1 + 1 + 1]? = some (.cells #[.int .u8 x0, .int .u8 x1, .int .u8 x2, .int .u8 x3] 5 (0, 0)) := by rw [hwF]; exact (blk_other_ (by omega) (blk_other_ (by omega) (blk_other_ (by omega) BD1)))
  have hbF : Below w.heap.size w wF := by rw [hwF]; exact (below_set (below_set (below_set hb2 (Nat.le_refl _)) (by omega)) (by omega))
  clear hwF BN1 BB1 BO1 BD1 hb2
  have HP : NumPost w wF (.slice (some ⟨w.heap.size + 1 + 1 + 1, 0, none⟩) 4 4) [x0, x1, x2, x3] := ⟨Kd.V_mk (xs := [x0, x1, x2, x3]) (Nat.le_refl _) (F_row (xs := [x0, x1, x2, x3]) qD (by show w.heap.size ≤ _; omega) (by simp)), hbF⟩
  clear qD hbF
  refine leaves_cons (f := 19) (args := #[.pointer (some ⟨w.heap.size, 0, none⟩), .pointer (some ⟨w.heap.size + 1, 0, none⟩), .pointer (some ⟨w.heap.size + 1 + 1, 0, none⟩)]) (by simp) (by simp [go_sem]) ?_
  refine (catch19 _ _ _ _).mono ?_
  rintro e u' w'' ⟨rfl, rfl, rfl⟩
  have cN := (blk_cell qN 0).trans (show _ = some (Value.int .u64 r) from rfl)
  have cB := (blk_cell qB 0).trans (show _ = some (Value.slice (some ⟨w.heap.size + 1 + 1 + 1, 0, none⟩) 4 4) from rfl)
  have cO := (blk_cell qO 0).trans (show _ = some (Value.bool true) from rfl)
  simp [Leaves, settle, results, Try.results8, go_sem, cN, cB, cO]
  exact HP
set_option maxHeartbeats 4000000 in
set_option maxRecDepth 100000 in
theorem snum_8 (S1 : Value) (r x0 x1 x2 x3 x4 x5 x6 x7 : Int) (w : World)
    (hS : ∀ (g : Nat) (W : World), Below w.heap.size w W → W.heap[g]? = some (.cells #[.int .u8 0, .int .u8 0, .int .u8 0, .int .u8 0, .int .u8 0, .int .u8 0, .int .u8 0, .int .u8 0] 5 (0, 0)) → Calls Try.prog 26 #[S1, .int .i64 8, .slice (some ⟨g, 0, none⟩) 8 8] W fun e W' => e = .returned (.tuple #[.int .u64 r, .slice (some ⟨g, 0, none⟩) 8 8, .bool true]) ∧ W' = ((((((((W.setCell ⟨g, 0, none⟩ (.int .u8 x0)).setCell ⟨g, 1, none⟩ (.int .u8 x1)).setCell ⟨g, 2, none⟩ (.int .u8 x2)).setCell ⟨g, 3, none⟩ (.int .u8 x3)).setCell ⟨g, 4, none⟩ (.int .u8 x4)).setCell ⟨g, 5, none⟩ (.int .u8 x5)).setCell ⟨g, 6, none⟩ (.int .u8 x6)).setCell ⟨g, 7, none⟩ (.int .u8 x7))) :
    Calls Try.prog 8 #[S1, .int .i64 8, .bool true, .bool false] w fun e w' => ∃ v, e = .returned (.tuple #[.int .u64 r, v, .bool true]) ∧ NumPost w w' v [x0, x1, x2, x3, x4, x5, x6, x7] := by
  have hmf : ∀ (fn : Fn) (first cap : Array Value) (w : World), (Instr.makeFunc fn first cap).run Try.prog w = .ok (.func fn first cap) w := fun _ _ _ _ => rfl
  have hmk : ∀ w, (Instr.makeSlice 22 (.int .i64 8) (.int .i64 8)).run Try.prog w = .ok (.slice (some ⟨w.heap.size, 0, none⟩) 8 8) (w.alloc (.cells #[.int .u8 0, .int .u8 0, .int .u8 0, .int .u8 0, .int .u8 0, .int .u8 0, .int .u8 0, .int .u8 0] 5)) := fun _ => by kernel_rfl
  go_enter_defers Try.func8, Try.ntmps8
  go_wp2_with (go_at_call 26; fail)
  clear hmf hmk
  refine calls_at ?_
  intro w0 hw0
  have BN0 : w0.heap[w.heap.size]? = some (.cells #[.int .u64 0] 24 (0, 0)) := by rw [hw0]; exact blk_alloc_ (blk_alloc_ (blk_alloc_ (blk_new_at rfl)))
  have BB0 : w0.heap[w.heap.size + 1]? = some (.cells #[.slice (some ⟨w.heap.size + 1 + 1 + 1, 0, none⟩) 8 8] 22 (0, 0)) := by rw [hw0]; exact blk_alloc_ (blk_alloc_ (blk_new_at (by simp)))
  have BO0 : w0.heap[w.heap.size + 1 + 1]? = some (.cells #[.bool false] 4 (0, 0)) := by rw [hw0]; exact blk_alloc_ (blk_new_at (by simp))
  have BD0 : w0.heap[w.heap.size + 1 + 1 + 1]? = some (.cells #[.int .u8 0, .int .u8 0, .int .u8 0, .int .u8 0, .int .u8 0, .int .u8 0, .int .u8 0, .int .u8 0] 5 (0, 0)) := by rw [hw0]; exact blk_new_at (by simp)
  have hb0 : Below w.heap.size w w0 := by rw [hw0]; exact below_alloc (below_alloc (below_alloc (below_alloc (Below.refl _ _) _) _) _) _
  clear hw0
  refine (hS _ w0 hb0 BD0).mono ?_
  rintro e w2 ⟨rfl, hw2⟩
  clear hS
  have BN1 : w2.heap[w.heap.size]? = some (.cells #[.int .u64 0] 24 (0, 0)) := by rw [hw2]; exact far8 (by omega) BN0 (.int .u8 x0) (.int .u8 x1) (.int .u8 x2) (.int .u8 x3) (.int .u8 x4) (.int .u8 x5) (.int .u8 x6) (.int .u8 x7)
  have BB1 : w2.heap[w.heap.size + 1]? = some (.cells #[.slice (some ⟨w.heap.size + 1 + 1 + 1, 0, none⟩) 8 8] 22 (0, 0)) := by rw [hw2]; exact far8 (by omega) BB0 (.int .u8 x0) (.int .u8 x1) (.int .u8 x2) (.int .u8 x3) (.int .u8 x4) (.int .u8 x5) (.int .u8 x6) (.int .u8 x7)
  have BO1 : w2.heap[w.heap.size + 1 + 1]? = some (.cells #[.bool false] 4 (0, 0)) := by rw [hw2]; exact far8 (by omega) BO0 (.int .u8 x0) (.int .u8 x1) (.int .u8 x2) (.int .u8 x3) (.int .u8 x4) (.int .u8 x5) (.int .u8 x6) (.int .u8 x7)
  have BD1 : w2.heap[w.heap.size + 1 + 1 + 1]? = some (.cells #[.int .u8 x0, .int .u8 x1, .int .u8 x2, .int .u8 x3, .int .u8 x4, .int .u8 x5, .int .u8 x6, .int .u8 x7] 5 (0, 0)) := by rw [hw2]; exact put8 BD0 (.int .u8 x0) (.int .u8 x1) (.int .u8 x2) (.int .u8 x3) (.int .u8 x4) (.int .u8 x5) (.int .u8 x6) (.int .u8 x7)
  have hb2 : Below w.heap.size w w2 := by rw [hw2]; exact bel8 hb0 (by omega) (.int .u8 x0) (.int .u8 x1) (.int .u8 x2) (.int .u8 x3) (.int .u8 x4) (.int .u8 x5) (.int .u8 x6) (.int .u8 x7)
  clear hw2 BN0 BB0 BO0 BD0 hb0
  have cn : w2.cell? ⟨w.heap.size, 0, none⟩ = some (.int .u64 0) := (blk_cell BN1 0).trans rfl
  have fn := blk_frozen BN1 0
  have cb : w2.cell? ⟨w.heap.size + 1, 0, none⟩ = some (.slice (some ⟨w.heap.size + 1 + 1 + 1, 0, none⟩) 8 8) := (blk_cell BB1 0).trans rfl
  have fb := blk_frozen BB1 0
  have co : w2.cell? ⟨w.heap.size + 1 + 1, 0, none⟩ = some (.bool false) := (blk_cell BO1 0).trans rfl
  have fo := blk_frozen BO1 0
  have H1 := Lib.hid (And.intro BN1 (And.intro BB1 (And.intro BO1 (And.intro BD1 hb2))))
  clear BN1 BB1 BO1 BD1 hb2
  go_wp2_with (fail)
  obtain ⟨BN1, BB1, BO1, BD1, hb2⟩ := H1.out
  clear H1 cn fn cb fb co fo
  obtain ⟨wF, hwF⟩ : ∃ wF, wF = (((w2.setCell ⟨w.heap.size, 0, none⟩ (.int .u64 r)).setCell ⟨w.heap.size + 1, 0, none⟩ (.slice (some ⟨w.heap.size + 1 + 1 + 1, 0, none⟩) 8 8)).setCell ⟨w.heap.size + 1 + 1, 0, none⟩ (.bool true)) := ⟨_, rfl⟩
  rw [← hwF]
  have qN : wF.heap[w.heap.size]? = some (.cells #[.int .u64 r] 24 (0, 0)) := by rw [hwF]; exact (blk_other_ (by omega) (blk_other_ (by omega) (blk_put_at BN1 rfl)))
  have qB : wF.heap[w.heap.size + 1]? = some (.cells #[.slice (some ⟨w.heap.size + 1 + 1 + 1, 0, none⟩) 8 8] 22 (0, 0)) := by rw [hwF]; exact (blk_other_ (by omega) (blk_put_at (blk_other_ (by omega) BB1) rfl))
  have qO : wF.heap[w.heap.size + 1 + 1]? = some (.cells #[.bool true] 4 (0, 0)) := by rw [hwF]; exact (blk_put_at (blk_other_ (by omega) (blk_other_ (by omega) BO1)) rfl)
  have qD : wF.heap[w.heap.size + 1 + 1 + 1]? = some (.cells #[.int .u8 x0, .int .u8 x1, .int .u8 x2, .int .u8 x3, .int .u8 x4, .int .u8 x5, .int .u8 x6, .int .u8 x7] 5 (0, 0)) := by rw [hwF]; exact (blk_other_ (by omega) (blk_other_ (by omega) (blk_other_ (by omega) BD1)))
  have hbF : Below w.heap.size w wF := by rw [hwF]; exact (below_set (below_set (below_set hb2 (Nat.le_refl _)) (by omega)) (by omega))
  clear hwF BN1 BB1 BO1 BD1 hb2
  have HP : NumPost w wF (.slice (some ⟨w.heap.size + 1 + 1 + 1, 0, none⟩) 8 8) [x0, x1, x2, x3, x4, x5, x6, x7] := ⟨Kd.V_mk (xs := [x0, x1, x2, x3, x4, x5, x6, x7]) (Nat.le_refl _) (F_row (xs := [x0, x1, x2, x3, x4, x5, x6, x7]) qD (by show w.heap.size ≤ _; omega) (by simp)), hbF⟩
  clear qD hbF
  refine leaves_cons (f := 19) (args := #[.pointer (some ⟨w.heap.size, 0, none⟩), .pointer (some ⟨w.heap.size + 1, 0, none⟩), .pointer (some ⟨w.heap.size + 1 + 1, 0, none⟩)]) (by simp) (by simp [go_sem]) ?_
  refine (catch19 _ _ _ _).mono ?_
  rintro e u' w'' ⟨rfl, rfl, rfl⟩
  have cN := (blk_cell qN 0).trans (show _ = some (Value.int .u64 r) from rfl)
  have cB := (blk_cell qB 0).trans (show _ = some (Value.slice (some ⟨w.heap.size + 1 + 1 + 1, 0, none⟩) 8 8) from rfl)
  have cO := (blk_cell qO 0).trans (show _ = some (Value.bool true) from rfl)
  simp [Leaves, settle, results, Try.results8, go_sem, cN, cB, cO]
  exact HP
end Go.Proofs.Ytbepnloclnjkfaa.V
