/- A row of the call's own whose elements are argument fields: append of rows. -/
import Derived.Test.YteebgnhhjlgnjaaGreatDoorMR
namespace Go.Proofs.YteebgnhhjlgnjaaGreatDoor.V
open Go.RowKit Go.Proofs.YteebgnhhjlgnjaaGreatDoorW.PrintWords Go.Proofs.YteebgnhhjlgnjaaGreatDoorW.PrintLast Go.Proofs.YteebgnhhjlgnjaaGreatDoorW.PrintMore
set_option maxHeartbeats 40000000
set_option maxRecDepth 100000
set_option linter.unusedVariables false
set_option linter.unusedSimpArgs false
theorem inner3 {α : Type} {R : α → List Value → Prop} {size : Nat} {w : World} {ad : Addr} {n : Nat} {ps : List α} (h : ReadsRow R size w (some ad) n ps) :
 ∃ inner, Reps R size ps inner ∧ ∀ j u, inner[j]? = some u → w.cell? (ad.add j) = some u := by
 have key : ∀ m, m ≤ ps.length → ∃ inner, Reps R size (ps.take m) inner ∧ ∀ j u, inner[j]? = some u → w.cell? (ad.add j) = some u := by
  intro m
  induction m with
  | zero => exact fun _ => ⟨[], Reps.none _ _, fun j u hu => by simp at hu⟩
  | succ m ih =>
   intro hm
   obtain ⟨inner, hr, hc⟩ := ih (by omega)
   obtain ⟨ad', he, hcell⟩ := h.2.2 (by have := h.1; omega)
   injection he with he
   subst he
   obtain ⟨c, hcl, hp, hcc⟩ := hcell m _ (List.getElem?_eq_getElem (show m < ps.length by omega))
   refine ⟨inner ++ c, ?_, fun j u hu => ?_⟩
   ·rw [List.take_succ_eq_append_getElem (show m < ps.length by omega)]
    exact hr.snoc hp hcl
   ·have hil : inner.length = m * size := by rw [hr.1, List.length_take, Nat.min_eq_left (by omega)]
    rcases Nat.lt_or_ge j inner.length with hj | hj
    ·rw [List.getElem?_append_left hj] at hu
     exact hc j u hu
    ·rw [List.getElem?_append_right hj] at hu
     have := hcc (j - inner.length) u hu
     rwa [hil, Nat.add_sub_cancel' (by omega)] at this
 obtain ⟨inner, hr, hc⟩ := key ps.length (Nat.le_refl _)
 rw [List.take_length] at hr
 exact ⟨inner, hr, hc⟩
theorem reps_app {α : Type} {R : α → List Value → Prop} {size : Nat} {ps qs : List α} {a b : List Value} (h : Reps R size ps a) (h' : Reps R size qs b) : Reps R size (ps ++ qs) (a ++ b) := by
 refine ⟨by rw [List.length_append, List.length_append, h.1, h'.1, Nat.add_mul], fun j p hj => ?_⟩
 rcases Nat.lt_or_ge j ps.length with hl | hl
 ·rw [List.getElem?_append_left hl] at hj
  have e := h.2 j p hj
  have hle : j * size + size ≤ a.length := by
   rw [h.1]
   calc j * size + size = (j + 1) * size := by rw [Nat.add_mul, Nat.one_mul]
    _ ≤ ps.length * size := Nat.mul_le_mul_right _ hl
  rw [List.drop_append_of_le_length (by omega), List.take_append_of_le_length (by rw [List.length_drop]; omega)]
  exact e
 ·rw [List.getElem?_append_right hl] at hj
  have e := h'.2 _ p hj
  have hd : j * size = a.length + (j - ps.length) * size := by
   rw [h.1, ← Nat.add_mul]
   congr 1
   omega
  rw [hd, List.drop_append, List.drop_eq_nil_of_le (by omega), List.nil_append, Nat.add_sub_cancel_left]
  exact e
theorem reps_one {R : S30 → List Value → Prop} (hR : ∀ p c, R p c → ∀ u ∈ c, u.oneCell' = true) {ps : List S30} {cs : List Value} (h : Reps R 13 ps cs) : ∀ u ∈ cs, u.oneCell' = true := by
 intro u hu
 obtain ⟨q, hq, rfl⟩ := List.mem_iff_getElem.1 hu
 have hql : q / 13 < ps.length := by have := h.1; omega
 refine hR _ _ (h.2 (q / 13) _ (List.getElem?_eq_getElem hql)) _ ?_
 rw [List.mem_iff_getElem?]
 refine ⟨q % 13, ?_⟩
 rw [List.getElem?_take, if_pos (Nat.mod_lt _ (by decide)), List.getElem?_drop, Nat.mul_comm, Nat.div_add_mod, List.getElem?_eq_getElem hq]
theorem c30_take {w : World} {A : Option Addr} {xs : List S30} {m : Nat} (h : Kd.C k30 w A xs.length xs) (hm : m ≤ xs.length) : Kd.C k30 w A (xs.take m).length (xs.take m) := by
 have hl : (xs.take m).length = m := by rw [List.length_take]; omega
 refine ⟨rfl, by rw [hl]; have := h.2.1; omega, fun hp => ?_⟩
 obtain ⟨ad, e, hc⟩ := h.2.2 (by omega)
 refine ⟨ad, e, fun j p hj => hc j p ?_⟩
 rw [List.getElem?_take] at hj
 split at hj
 ·exact hj
 ·cases hj
theorem c30_drop {w : World} {A : Option Addr} {xs : List S30} {m c : Nat} (h : Kd.C k30 w A xs.length xs) (hm : m ≤ xs.length) (hc : xs.length ≤ c) : Kd.C k30 w (if c = m then A else A.map (·.add (m * 13))) (xs.drop m).length (xs.drop m) := by
 have hl : (xs.drop m).length = xs.length - m := List.length_drop
 refine ⟨rfl, by rw [hl]; have := h.2.1; omega, fun hp => ?_⟩
 rw [hl] at hp
 obtain ⟨ad, rfl, hcell⟩ := h.2.2 (by omega)
 rw [if_neg (by omega)]
 refine ⟨ad.add (m * 13), rfl, fun j p hj => ?_⟩
 rw [List.getElem?_drop] at hj
 obtain ⟨cs, h1, h2, h3⟩ := hcell (m + j) p hj
 refine ⟨cs, h1, h2, fun i u hu => ?_⟩
 have e13 : k30.sz = 13 := rfl
 rw [e13] at h3 ⊢
 rw [add_add, show m * 13 + (j * 13 + i) = (m + j) * 13 + i by omega]
 exact h3 i u hu
def Fr (w0 W : World) (base : Nat) (v : Value) (ps : List S30) : Prop := ∃ cs, W.ownsRow base 30 13 v ps.length cs ∧ Reps (k30.K w0) 13 ps cs
theorem Fr.below {w0 W W' : World} {base : Nat} {v : Value} {ps : List S30} (h : Fr w0 W base v ps) (hb : Below W.heap.size W W') : Fr w0 W' base v ps := by
 obtain ⟨cs, h1, h2⟩ := h
 exact ⟨cs, own_below_ h1 hb, h2⟩
theorem Fr.base {w0 W : World} {base : Nat} {v : Value} {ps : List S30} (h : Fr w0 W base v ps) : ∀ k, v.ownBlock = some k → base ≤ k := by
 obtain ⟨cs, h1, h2⟩ := h
 exact fun k hk => own_base h1 k hk
theorem Fr.lt {w0 W : World} {base : Nat} {v : Value} {ps : List S30} (h : Fr w0 W base v ps) : ∀ k, v.ownBlock = some k → k < W.heap.size := by
 obtain ⟨cs, h1, h2⟩ := h
 exact fun k hk => own_lt h1 k hk
theorem Fr.made (w0 W : World) (base : Nat) (hb : base ≤ W.heap.size) {w' : World} (hw : w'.heap[W.heap.size]? = some (.cells #[] 30 (0, 0))) : Fr w0 w' base (.slice (some ⟨W.heap.size, 0, none⟩) 0 0) [] :=
 ⟨[], ⟨rfl, .inr ⟨W.heap.size, 0, #[], rfl, hb, hw, Nat.le_refl _, by simp, rfl, rfl⟩⟩, Reps.none _ _⟩
theorem Fr.reads {w0 W : World} {base : Nat} {v : Value} {ps : List S30} (h : Fr w0 W base v ps) (hb : Below w0.heap.size w0 W) : ∃ A c, v = .slice A ps.length c ∧ ps.length ≤ c ∧ Kd.C k30 W A ps.length ps := by
 obtain ⟨A, c, e, hl, hr⟩ := OwnRow.reads (R := k30.K w0) (size := 13) (e := 30) (w := W) (base := base) (v := v) (ps := ps) h
 exact ⟨A, c, e, hl, hr.1, hr.2.1, fun hp => by
  obtain ⟨ad, e, hc⟩ := hr.2.2 hp
  exact ⟨ad, e, fun j p hj => by
   obtain ⟨cs, h1, h2, h3⟩ := hc j p hj
   exact ⟨cs, h1, Kd.K_below k30 hb h2, h3⟩⟩⟩
theorem app30 {w0 W : World} {base : Nat} {v : Value} {ps qs : List S30} (ty : TypeId) (h : Fr w0 W base v ps) (A : Option Addr) (c : Nat) (hq : ReadsRow (k30.K w0) 13 W A qs.length qs) (hlen : ps.length + qs.length ≤ 1000) (hbase : base ≤ W.heap.size) :
 ∃ v' w', (Builtin.append_ #[22, 22] ty #[v, .slice A qs.length c]).run Tryz.prog W = .ok v' w' ∧ Fr w0 w' base v' (ps ++ qs) ∧ W.grownBy w' v.ownBlock ∧ (v'.ownBlock = v.ownBlock ∨ v'.ownBlock = some W.heap.size) := by
 obtain ⟨i0, hi0, hzz⟩ := Option.map_eq_some_iff.1 info30
 simp only [Prod.mk.injEq] at hzz
 obtain ⟨hz0, hz1, hz2⟩ := hzz
 obtain ⟨cs, ho, hr⟩ := h
 rcases A with _ | ad
 ·have h0 : qs.length = 0 := by
   rcases Nat.eq_zero_or_pos qs.length with h0 | h0
   ·exact h0
   ·obtain ⟨ad, h, _⟩ := hq.2.2 h0
    cases h
  obtain rfl : qs = [] := List.eq_nil_of_length_eq_zero h0
  refine ⟨v, W, ?_, by rw [List.append_nil]; exact ⟨cs, ho, hr⟩, World.grownBy.refl W _, .inl rfl⟩
  rcases ho.2 with ⟨rfl, hn⟩ | ⟨g, cap, cur, rfl, _, _, hnc, _⟩
  ·simp [Builtin.append_, run_underlying Tryz.underlying22, sizeOf, typeInfo, hi0, Builtin.lenOf, Builtin.firstCells]
  ·simp [Builtin.append_, run_underlying Tryz.underlying22, sizeOf, typeInfo, hi0, Builtin.lenOf, Builtin.firstCells, hnc, storeCells]
 ·obtain ⟨news, hnr, hnc⟩ := inner3 hq
  obtain ⟨v1, w1, hrun, h2, hg, _, hat⟩ := run_append_own_at (P := Tryz.prog) W base 22 ty 30 i0 z30v 13 168 Tryz.underlying22 hi0 hz0 hz1 hz2 rfl (by decide) v ps.length cs ho ad qs.length c news hnr.1 hnc (reps_one (fun p c hp => Kd.K_one k30 hp) hnr) (by simp only [maxLen]; omega) (by omega) hbase
  exact ⟨v1, w1, hrun, ⟨cs ++ news, by rw [List.length_append]; exact h2, reps_app hr hnr⟩, hg, hat⟩
section
variable {md : Region.Mode} {ops : Array Oper} {Q : Exit → Act → World → Prop} {S : World → Prop} {ds : List Nat} {n m fuel : Nat} {oi : Oper} {a a' : Act} {l : Array Bool} {w : World}
theorem raz (i N M : Nat) {rs : List Nat} (w0 : World) (base : Nat) (s x : Operand) (v : Value) (ps qs : List S30) (A : Option Addr) (k c : Nat) (ho : Fr w0 w base v ps) (hq : ReadsRow (k30.K w0) 13 w A k qs) (hlen : ps.length + qs.length ≤ 1000) (hbase : base ≤ w.heap.size)
 (h : ∀ v1 w1, Fr w0 w1 base v1 (ps ++ qs) → w.grownBy w1 v.ownBlock → (v1.ownBlock = v.ownBlock ∨ v1.ownBlock = some w.heap.size) → S w1 ∧ wpAnyLast Tryz.prog md ops Q S ds fuel (ba n M) (a.put (some N) v1) w1)
 (hr : AllReadyL Tryz.prog md ops Q S ds fuel (ba n m) a w rs)
 (hi : ops[i]? = some oi := by exact rfl) (hop : oi.op = .call { callee := .builtin .append, args := #[s, x], argTypes := #[22, 22] } := by exact rfl) (hs : a.eval s = v := by rfl) (hx : a.eval x = .slice A k c := by rfl)
 (hN : oi.dst = some N := by exact rfl) (hl : (ba n m).setIfInBounds i true = ba n M := by kernel_rfl) (hd : i ∉ ds := by decide) (hw : Region.wanted oi (yielded ops a.tmps) = true := by rfl) :
 AllReadyL Tryz.prog md ops Q S ds fuel (ba n m) a w (i :: rs) := by
 refine AllReadyL.cons hi hd (fun K hK => ?_) hr
 rw [hl] at hK
 rw [if_pos hw]
 obtain rfl : qs.length = k := hq.1
 obtain ⟨v1, w1, hrun, h1, hg, hat⟩ := app30 oi.type ho A c hq hlen hbase
 unfold Oper.wp execOp
 simp only [hop, resolve, invoke, builtin, Sem.run_bind, Sem.run_pure, Result.andThen_ok, List.map_toArray, List.map_cons, List.map_nil, hs, hx, hrun]
 show K (a.put oi.dst v1) w1
 rw [hN]
 exact hK.out _ _ (h v1 w1 h1 hg hat).1 (fun _ => (h v1 w1 h1 hg hat).2)
end
end Go.Proofs.YteebgnhhjlgnjaaGreatDoor.V
