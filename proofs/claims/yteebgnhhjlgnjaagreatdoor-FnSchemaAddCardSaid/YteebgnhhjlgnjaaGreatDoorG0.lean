/- . -/
import Derived.Test.YteebgnhhjlgnjaaGreatDoorV0
import Derived.Orders
import Derived.Test.YteebgnhhjlgnjaaGreatDoorFV1
namespace Go.Proofs.YteebgnhhjlgnjaaGreatDoor.V
open Go.RowKit Go.Proofs.YteebgnhhjlgnjaaGreatDoorW.PrintWords Go.Proofs.YteebgnhhjlgnjaaGreatDoorW.PrintLast Go.Proofs.YteebgnhhjlgnjaaGreatDoorW.PrintMore
set_option maxHeartbeats 40000000
set_option maxRecDepth 100000
set_option linter.unusedVariables false
def midQ (M : Act → World → Prop) (Q : Exit → Act → World → Prop) : Exit → Act → World → Prop
 | .normal, a, w => M a w
 | e, a, w => Q e a w
section
variable {P : Program} {ops : Array Oper} {Q : Exit → Act → World → Prop}
theorem midQ_lets {M : Act → World → Prop} (h : LetsOut (midQ M Q)) : LetsOut Q := h
theorem Oper_wp_mid {M : Act → World → Prop} {o : Oper} {a : Act} {w : World} {K K' : Act → World → Prop} (h : ∀ a w, K a w → K' a w)
 (hh : o.wp P a w K (midQ M Q)) : o.wp P a w K' Q := by
 unfold Oper.wp at *
 generalize (execOp a.eval o).run P w = r at *
 cases r with
 | ok n w' =>
  cases n <;> simp only [Oper.upon] at hh ⊢ <;>
   first
    | exact h _ _ hh
    | exact Calls.mono hh (fun e w'' he => by cases e <;> first | exact h _ _ he | exact he)
    | exact Rows.mono hh (fun _ _ he => h _ _ he)
 | halt x w' => cases x <;> simp only [Oper.upon] at hh ⊢ <;> exact hh
theorem wpList_cut (M : Act → World → Prop) : ∀ (n : Nat) (l : List Oper) (a : Act) (w : World), wpList P ops (midQ M Q) (l.take n) a w → (∀ a' w', M a' w' → wpList P ops Q (l.drop n) a' w') → wpList P ops Q l a w
 | 0, l, a, w, h, k => k a w h
 | n + 1, [], a, w, h, k => k a w h
 | n + 1, o :: l, a, w, h, k => by
  have h' : if Region.wanted o (yielded ops a.tmps) then o.wp P a w (wpList P ops (midQ M Q) (l.take n)) (midQ M Q) ∨ (o.asks P a w ∧ LetsOut (midQ M Q)) else wpList P ops (midQ M Q) (l.take n) (a.put o.dst undef) w := h
  show if Region.wanted o (yielded ops a.tmps) then o.wp P a w (wpList P ops Q l) Q ∨ (o.asks P a w ∧ LetsOut Q) else wpList P ops Q l (a.put o.dst undef) w
  split
  ·rename_i hw
   rw [if_pos hw] at h'
   exact h'.imp (Oper_wp_mid fun a' w' hh => wpList_cut M n l a' w' hh k) (fun x => ⟨x.1, midQ_lets x.2⟩)
  ·rename_i hw
   rw [if_neg hw] at h'
   exact wpList_cut M n l _ _ h' k
end
theorem w64_id (a : Int) (h0 : 0 ≤ a) (h1 : a < 2 ^ 62) : wrap64 a = a := by unfold wrap64; omega
theorem in_l0 (x : Int) (ls : List Int) (hl : ls.length < 2 ^ 40) : ∀ (d k i : Nat), i + d = ls.length → d < k → spec_in.l0 k x ls (ls.length : Int) (i : Int) = some ((ls.drop i).contains x)
 | d, 0, i, _, hk => absurd hk (by omega)
 | 0, k + 1, i, hi, _ => by
  rw [spec_in.l0, if_neg (by omega), List.drop_eq_nil_of_le (by omega)]
  rfl
 | d + 1, k + 1, i, hi, hk => by
  have e1 : wrap64 ((i : Int) + 1) = ((i + 1 : Nat) : Int) := by rw [w64_id _ (by omega) (by omega)]; omega
  have e2 : rd ls (i : Int) = ls[i]'(by omega) := by
   first
    | (simp [rd, List.getD_eq_getElem?_getD, List.getElem?_eq_getElem (show i < ls.length by omega)]; done)
    | rfl
  rw [spec_in.l0, if_pos (by omega), if_pos (by omega), if_pos (by omega), e1, e2, in_l0 x ls hl d k (i + 1) (by omega) (by omega), List.drop_eq_getElem_cons (show i < ls.length by omega), List.contains_cons]
  by_cases h : x = ls[i]'(by omega)
  ·rw [if_pos h, beq_iff_eq.2 h, Bool.true_or]
  ·rw [if_neg h, beq_eq_false_iff_ne.2 h, Bool.false_or]
theorem in_f (x : Int) (ls : List Int) (hl : ls.length < 2 ^ 40) (k : Nat) (hk : ls.length < k) : spec_in.f k x ls = some (ls.contains x) := in_l0 x ls hl ls.length k 0 (by omega) hk
theorem in_lit (x : Int) (ls : List Int) (hl : ls.length < 2 ^ 40) (cs : Array Value) (e : TypeId) (w : World) (n : Nat) (hn : n = ls.length) (hcs : cs = (ls.map (Value.int .i64)).toArray) :
 Calls Tryz.prog 56 #[.int .i64 x, .slice (some ⟨w.heap.size, 0, none⟩) n n] (w.alloc (.cells cs e (0, 0))) fun e w' => e = .returned (.bool (ls.contains x)) ∧ Below w.heap.size w w' := by
 subst hn hcs
 refine (spec_in.calls (ls.length + 1) x (some ⟨w.heap.size, 0, none⟩) ls.length ls (ls.contains x) _ (Kd.C_of_reads (enc := Value.int .i64) (d := (0 : Int)) (h1 := fun _ => rfl) ⟨rfl, by omega, fun hn => ⟨_, rfl, fun j hj => ?_⟩⟩) (Nat.le_refl _) (in_f x ls hl _ (by omega))).mono ?_
 ·have h : (w.alloc (.cells (ls.map (Value.int .i64)).toArray e (0, 0))).heap[w.heap.size]? = some (.cells (ls.map (Value.int .i64)).toArray e (0, 0)) := blk_new _ _
  have h2 := blk_cell (g := w.heap.size) (w := w.alloc (.cells (ls.map (Value.int .i64)).toArray e (0, 0))) h j
  rw [List.getElem?_toArray, List.getElem?_map, List.getElem?_eq_getElem hj] at h2
  have e0 : (Addr.add ⟨w.heap.size, 0, none⟩ j) = ⟨w.heap.size, j, none⟩ := by simp [Addr.add]; omega
  rw [e0, h2, List.getD_eq_getElem?_getD, List.getElem?_eq_getElem hj]
  rfl
 ·rintro e' w' ⟨rfl, ⟨nd, rfl⟩⟩
  exact ⟨rfl, bl⟩
end Go.Proofs.YteebgnhhjlgnjaaGreatDoor.V
namespace Go.Proofs.YteebgnhhjlgnjaaGreatDoor.V
open Go.RowKit Go.Proofs.YteebgnhhjlgnjaaGreatDoorW.PrintWords Go.Proofs.YteebgnhhjlgnjaaGreatDoorW.PrintLast Go.Proofs.YteebgnhhjlgnjaaGreatDoorW.PrintMore
set_option linter.unusedVariables false
def unusedB (T : S28) : Bool :=
 (T.f1 == 0 || [2, 3, 7, 15, 16].contains T.f0) && (!T.f2 || T.f0 == 2) && (T.f3 == 0 || [8, 9, 10, 11, 14, 18].contains T.f0) &&
 ((T.f4 == 0 && T.f5 == 0) || T.f0 == 7) && (T.f6.toList == [] || T.f0 == 10) && (!T.f7 || [17, 27].contains T.f0) && (T.f8.length == 0 || T.f0 == 14)
def spec_unused.f (a0_0 : Int) (a0_1 : Int) (a0_2 : Bool) (a0_3 : Int) (a0_4 : Int) (a0_5 : Int) (a0_6 : ByteArray) (a0_7 : Bool) (l0_8 : List Int) (l0_9 : List (S30)) : Option Bool :=
 some (unusedB ⟨a0_0, a0_1, a0_2, a0_3, a0_4, a0_5, a0_6, a0_7, l0_8, l0_9⟩)
end Go.Proofs.YteebgnhhjlgnjaaGreatDoor.V
