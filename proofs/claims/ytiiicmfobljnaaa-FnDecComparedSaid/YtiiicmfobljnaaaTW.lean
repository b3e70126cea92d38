/- Words for walks that stand at each call (walkgen.py), and what is deferred and recovers nothing. -/
import Derived.Test.YtiiicmfobljnaaaT0
import Derived.Test.YtiiicmfobljnaaaV8
import Derived.Deep.RegionHeld3
namespace Go.Proofs.Ytiiicmfobljnaaa.V
open Go.RowKit Go.Proofs.YtiiicmfobljnaaaW.PrintWords Go.Proofs.YtiiicmfobljnaaaW.PrintLast Go.Proofs.YtiiicmfobljnaaaW.PrintMore
theorem catch_two (p q r : Addr) (w : World) :
    CallsD Try.prog 22 #[.pointer (some p), .pointer (some q), .pointer (some r)] .returning w fun e u' w' => e = .returned (.tuple #[]) ∧ u' = .returning ∧ w = w' := by
  refine callsD_of_wpS Try.func22 rfl fun c₀ cs hu => ?_
  apply wpS_seq
  apply wpS_region
  simp [wpOpsS, go_sem, recoverD, hu, Try.ntmps22, Exit.thenS]
  refine wpS_cond (t := false) (by simp [Act.eval, Array.replicate]) ?_
  simp only [Bool.false_eq_true, if_false]
  refine wpS_of_wp (wp_skip ?_)
  cases c₀
  simp_all [bodyPostS, results, Try.results22]
theorem catch_one (p q : Addr) (w : World) :
    CallsD Try.prog 32 #[.pointer (some p), .pointer (some q)] .returning w fun e u' w' => e = .returned (.tuple #[]) ∧ u' = .returning ∧ w = w' := by
  refine callsD_of_wpS Try.func32 rfl fun c₀ cs hu => ?_
  apply wpS_seq
  apply wpS_region
  simp [wpOpsS, go_sem, recoverD, hu, Try.ntmps32, Exit.thenS]
  refine wpS_cond (t := false) (by simp [Act.eval, Array.replicate]) ?_
  simp only [Bool.false_eq_true, if_false]
  refine wpS_of_wp (wp_skip ?_)
  cases c₀
  simp_all [bodyPostS, results, Try.results32]


theorem keep {W W' : World} {p : Addr} {v : Value} (hb : Below W.heap.size W W') (hc : W.cell? p = some v) : W'.cell? p = some v := (hb.cell (World.block_lt_of_cell? W p hc)).trans hc
theorem keepf {W W' : World} {p : Addr} {v : Value} {b : Bool} (hb : Below W.heap.size W W') (hc : W.cell? p = some v) (hf : W.frozen? p = b) : W'.frozen? p = b := (hb.frozen (World.block_lt_of_cell? W p hc)).trans hf
theorem calls_at {P : Program} {f : FuncId} {a : Array Value} {W : World} {Q : Ending → World → Prop} (h : ∀ w0, w0 = W → Calls P f a w0 Q) : Calls P f a W Q := h _ rfl
theorem wp_at {P : Program} {c : Code} {Q : Exit → Act → World → Prop} {a : Act} {W : World} (h : ∀ w0, w0 = W → Code.wp P c Q a w0) : Code.wp P c Q a W := h _ rfl
theorem alloced {W : World} {p : Addr} {v : Value} (h : W.cell? p = some v) : W.cell? p = some v ∧ (∀ o, (W.alloc o).cell? p = some v) ∧ (∀ o o', ((W.alloc o).alloc o').cell? p = some v) ∧ (∀ o o' o'', (((W.alloc o).alloc o').alloc o'').cell? p = some v) := by
  have h1 : ∀ o, (W.alloc o).cell? p = some v := fun o => keep (below_alloc (Below.refl _ _) _) h
  have h2 : ∀ o o', ((W.alloc o).alloc o').cell? p = some v := fun o o' => keep (below_alloc (Below.refl _ _) _) (h1 o)
  exact ⟨h, h1, h2, fun o o' o'' => keep (below_alloc (Below.refl _ _) _) (h2 o o')⟩
theorem alloced_f {W : World} {p : Addr} {v : Value} {b : Bool} (h : W.cell? p = some v) (hf : W.frozen? p = b) : W.frozen? p = b ∧ (∀ o, (W.alloc o).frozen? p = b) ∧ (∀ o o', ((W.alloc o).alloc o').frozen? p = b) ∧ (∀ o o' o'', (((W.alloc o).alloc o').alloc o'').frozen? p = b) := by
  have g := (alloced h).2
  have h1 : ∀ o, (W.alloc o).frozen? p = b := fun o => keepf (below_alloc (Below.refl _ _) _) h hf
  have h2 : ∀ o o', ((W.alloc o).alloc o').frozen? p = b := fun o o' => keepf (below_alloc (Below.refl _ _) _) (g.1 o) (h1 o)
  exact ⟨hf, h1, h2, fun o o' o'' => keepf (below_alloc (Below.refl _ _) _) (g.2.1 o o') (h2 o o')⟩
theorem blk_new_at {W : World} {g : Nat} {cs : Array Value} {t : TypeId} (h : g = W.heap.size) : (W.alloc (.cells cs t)).heap[g]? = some (.cells cs t (0, 0)) := by subst h; exact blk_new W _
theorem blk_alloc_ {W : World} {g : Nat} {o p : Obj} (h : W.heap[g]? = some o) : (W.alloc p).heap[g]? = some o := blk_below h (below_alloc (Below.refl _ _) _)
theorem blk_drew_ {W : World} {g : Nat} {o : Obj} (h : W.heap[g]? = some o) : W.drew.heap[g]? = some o := h
theorem blk_put_at {W : World} {g : Nat} {t : TypeId} {cs cs' : Array Value} {i : Nat} {u : Value} (h : W.heap[g]? = some (.cells cs t (0, 0))) (e : cs.setIfInBounds i u = cs') : (W.setCell ⟨g, i, none⟩ u).heap[g]? = some (.cells cs' t (0, 0)) := blk_put h i u e
theorem blk_other_ {W : World} {g b i : Nat} {o : Obj} {u : Value} (hne : g ≠ b) (h : W.heap[g]? = some o) : (W.setCell ⟨b, i, none⟩ u).heap[g]? = some o := (heap_setCell_other W ⟨b, i, none⟩ g u hne).trans h
theorem drawn_below {w w' : World} (h : Drawn0 w w') : Below w.heap.size w w' := by obtain ⟨n, rfl⟩ := h.out; exact pw_below_drewN (Below.refl _ _) _
end Go.Proofs.Ytiiicmfobljnaaa.V
