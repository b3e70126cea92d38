/- arrow's makers of unions. -/
import Derived.Test.YteebgnhhjlgnjaaGreatDoorST
import Derived.Laws.CopyOwn
import Derived.Test.YteebgnhhjlgnjaaGreatDoorD0
namespace Go.Proofs.YteebgnhhjlgnjaaGreatDoor.V
open Go.RowKit Go.Proofs.YteebgnhhjlgnjaaGreatDoorW.PrintWords Go.Proofs.YteebgnhhjlgnjaaGreatDoorW.PrintLast Go.Proofs.YteebgnhhjlgnjaaGreatDoorW.PrintMore
set_option maxHeartbeats 40000000
set_option maxRecDepth 100000
set_option linter.unusedVariables false
set_option linter.unusedSimpArgs false
def CodesAt (W : World) (A : Option Addr) (l : List Int) : Prop := 0 < l.length → ∃ ad, A = some ad ∧ ∀ (j : Nat) (hj : j < l.length), W.cell? (ad.add j) = some (.int .i8 l[j])
theorem CodesAt.below {W W' : World} {A : Option Addr} {l : List Int} (h : CodesAt W A l) (hb : Below W.heap.size W W') : CodesAt W' A l := fun h0 => by
 obtain ⟨ad, e, hr⟩ := h h0
 exact ⟨ad, e, fun j hj => pw_cell_below hb (hr j hj)⟩
def Seen (W : World) (S : Nat) (l : List Int) (i : Nat) : Prop := ∃ arr, W.heap[S]? = some (.cells arr 286 (0, 0)) ∧ arr.size = 128 ∧ ∀ c : Nat, c < 128 → arr[c]? = some (.bool ((l.take i).contains (c : Int)))
theorem take_has (l : List Int) (i : Nat) (hi : i < l.length) (c : Int) : (l.take (i + 1)).contains c = ((l.take i).contains c || c == l[i]) := by
 rw [List.take_succ_eq_append_getElem hi, Bool.eq_iff_iff]
 simp only [List.contains_iff_mem, List.mem_append, List.mem_singleton, Bool.or_eq_true, beq_iff_eq]
theorem Seen.step {W : World} {S : Nat} {l : List Int} {i : Nat} {arr : Array Value} (h : W.heap[S]? = some (.cells arr 286 (0, 0))) (hs : arr.size = 128) (hc : ∀ c : Nat, c < 128 → arr[c]? = some (.bool ((l.take i).contains (c : Int)))) (hi : i < l.length) (x : Nat) (hx : l[i] = (x : Int)) (hl : x < 128) : Seen (W.setCell ⟨S, x, none⟩ (.bool true)) S l (i + 1) := by
 refine ⟨_, blk_set h x _, by simp [hs], fun c hlt => ?_⟩
 rw [set_get _ _ _ _ (by omega), take_has l i hi, hx]
 by_cases e : c = x
 ·subst e
  simp
 ·rw [if_neg e, hc c hlt]
  have : ((c : Int) == (x : Int)) = false := by simp; omega
  rw [this, Bool.or_false]
theorem valid102 (t0 : Value) (A : Option Addr) (n c c' : Nat) (l : List Int) (m : Int) (w : World) (A' : Option Addr) (hn : l.length = n) (hl : n < 2 ^ 30) (hC : CodesAt w A' l) (hr : ∀ x ∈ l, 0 ≤ x ∧ x ≤ 126) (hd : l.Nodup) :
 Calls Tryz.prog 102 #[t0, .slice A n c, .slice A' n c', .int .i8 m] w fun e w' => e = .returned .nilIface ∧ Below w.heap.size w w' := by
 have HH := Aside0.mk (And.intro hC (And.intro hr (And.intro hd hn)))
 clear hC hr hd hn
 go_enter Tryz.func102, Tryz.ntmps102
 go_wp2
 refine wp_at ?_
 intro w0 hw0
 have s0 : Seen w0 w.heap.size l 0 := by
  rw [hw0]
  refine ⟨_, blk_new _ _, rfl, fun c hc => ?_⟩
  have e : ∀ c : Nat, c < 128 → (Array.replicate 128 (Value.bool false))[c]? = some (.bool false) := fun c hc => by simp [hc]
  exact e c hc
 have b0 : Below w.heap.size w w0 := by rw [hw0]; exact b1_ (Below.refl _ _) _
 have HS := Aside0.mk (And.intro s0 b0)
 clear hw0 s0 b0
 go_loopg [20] n (fun kq v20 wr => ∃ i : Nat, v20 = .int .i64 (i : Int) ∧ Aside0 (i + kq = n ∧ Seen wr w.heap.size l i ∧ Below w.heap.size w wr))
 case atStart => exact ⟨0, rfl, ⟨⟨by omega, HS.out.1, HS.out.2⟩⟩⟩
 case round =>
  obtain ⟨i, rfl, hL⟩ := hrel
  by_cases hi : i < n
  ·have hd : decide ((i : Int) < (n : Int)) = true := by simpa using hi
   obtain ⟨hC, hr, hnd, hn⟩ := HH.out
   obtain ⟨l1, l2, l3⟩ := hL.out
   have hil : i < l.length := by omega
   obtain ⟨ad, rfl, hrow⟩ := (hC.below l3) (by omega)
   have x0 := hrow i hil
   have hrx := hr _ (List.getElem_mem hil)
   have hnew : (l.take i).contains l[i] = false := by
    rw [Bool.eq_false_iff]
    intro h
    rw [List.contains_iff_mem, List.mem_take_iff_getElem] at h
    obtain ⟨j, hj, e⟩ := h
    exact List.pairwise_iff_getElem.1 hnd j i (by omega) hil (by omega) e
   obtain ⟨x, hx⟩ : ∃ x : Nat, l[i] = (x : Int) := ⟨l[i].toNat, by omega⟩
   obtain ⟨arr, hS, hsz, hcell⟩ := l2
   have x1 : wr.cell? ⟨w.heap.size, x, none⟩ = some (.bool false) := by
    rw [blk_cell hS, hcell x (by omega), ← hx, hnew]
   have f1 := blk_frozen hS x
   rw [hx] at x0
   have c0 : (x : Int) < 128 := by omega
   have c1 : x < 128 := by omega
   have hx2 : (x : Int) ≤ 126 := by omega
   have HK := Aside0.mk (And.intro hx (And.intro hS (And.intro hsz hcell)))
   clear hC hr hnd hn l1 l3 hrow hrx hnew hS hsz hcell hx
   go_wp2
   have l1 := hL.out.1
   go_roundg (n - (i + 1))
   case measure => omega
   case rel =>
    obtain ⟨k1, k2, k3, k4⟩ := HK.out
    exact ⟨i + 1, by go_num, ⟨⟨by omega, Seen.step k2 k3 k4 hil x k1 c1, hL.out.2.2.setCell (p := ⟨w.heap.size, x, none⟩) (Nat.le_refl _) _⟩⟩⟩
  ·have hd : decide ((i : Int) < (n : Int)) = false := by simpa using hi
   go_wp2
   go_ret
   exact ⟨rfl, hL.out.2.2⟩
def uinit (i : Nat) : List Value := [.slice none 0 0, .slice none 0 0] ++ List.replicate i (.int .i64 (-1)) ++ List.replicate (128 - i) (.int .i64 0)
theorem uinit_len (i : Nat) (h : i ≤ 128) : (uinit i).length = 130 := by simp [uinit]; omega
theorem uinit_splice (i : Nat) (h : 2 * i ≤ 128) : splice (uinit i) (2 + i) (List.replicate i (.int .i64 (-1))) = uinit (2 * i) := by
 apply List.ext_getElem?
 intro k
 unfold splice uinit
 simp only [List.getElem?_append, List.getElem?_take, List.getElem?_drop, List.length_append, List.length_take, List.length_replicate, List.length_cons, List.length_nil, List.getElem?_replicate]
 repeat' split
 all_goals first | rfl | omega | (congr 1; omega)
theorem uinit_m1 (i j : Nat) (h : j < i) : (uinit i).toArray[2 + j]? = some (.int .i64 (-1)) := by
 rw [List.getElem?_toArray, uinit, List.append_assoc, List.getElem?_append_right (by simp), List.getElem?_append_left (by simp; omega)]
 simp [h]
theorem add_two (U j : Nat) : (⟨U, 2, none⟩ : Addr).add j = ⟨U, 2 + j, none⟩ := by
 unfold Addr.add
 split
 ·rename_i e
  simp [e]
 ·rfl
def UCells (W : World) (U TT : Nat) (v0 v1 : Value) (l : List Int) (i : Nat) : Prop := ∃ arr, W.heap[U]? = some (.cells arr TT (0, 0)) ∧ arr.size = 130 ∧ arr[0]? = some v0 ∧ arr[1]? = some v1 ∧ ∀ c : Nat, c < 128 → arr[2 + c]? = some (.int .i64 (childOf (l.take i) c))
theorem findIdx_snoc (l : List Int) (x c : Int) (h : c ∉ l) : (l ++ [x]).findIdx? (· == c) = if x = c then some l.length else none := by
 rw [List.findIdx?_append]
 have e : l.findIdx? (· == c) = none := by
  rw [List.findIdx?_eq_none_iff]
  intro y hy
  have : y ≠ c := fun e => h (e ▸ hy)
  simp [this]
 rw [e]
 by_cases hx : x = c <;> simp [hx, List.findIdx?_cons]
theorem childOf_snoc (l : List Int) (x : Int) (hx : x ∉ l) (c : Nat) : childOf (l ++ [x]) c = if (c : Int) = x then (l.length : Int) else childOf l c := by
 unfold childOf
 by_cases h : (c : Int) = x
 ·rw [if_pos h, findIdx_snoc l x c (h ▸ hx), if_pos h.symm]
 ·rw [if_neg h, List.findIdx?_append]
  have e : ([x].findIdx? (· == (c : Int))) = none := by
   have : x ≠ (c : Int) := fun e => h e.symm
   simp [List.findIdx?_cons, this]
  rw [e]
  cases l.findIdx? (· == (c : Int)) <;> rfl
theorem UCells.step {W : World} {U TT : Nat} {v0 v1 : Value} {l : List Int} {i : Nat} (h : UCells W U TT v0 v1 l i) (hi : i < l.length) (hd : l.Nodup) (x : Nat) (hx : l[i] = (x : Int)) (hl : x < 128) : UCells (W.setCell ⟨U, 2 + x, none⟩ (.int .i64 (i : Int))) U TT v0 v1 l (i + 1) := by
 obtain ⟨arr, h1, h2, h3, h4, h5⟩ := h
 have hnew : (x : Int) ∉ l.take i := by
  intro h
  rw [List.mem_take_iff_getElem] at h
  obtain ⟨j, hj, e⟩ := h
  exact List.pairwise_iff_getElem.1 hd j i (by omega) hi (by omega) (e.trans hx.symm)
 refine ⟨_, blk_set h1 (2 + x) _, by simp [h2], by rw [set_get _ _ _ _ (by omega), if_neg (by omega)]; exact h3, by rw [set_get _ _ _ _ (by omega), if_neg (by omega)]; exact h4, fun c hc => ?_⟩
 rw [set_get _ _ _ _ (by omega), List.take_succ_eq_append_getElem hi, hx, childOf_snoc _ _ hnew]
 by_cases e : c = x
 ·subst e
  rw [if_pos rfl, if_pos rfl, List.length_take, Nat.min_eq_left (by omega)]
 ·rw [if_neg (by omega), if_neg (by omega)]
  exact h5 c hc
theorem UCells.all {W : World} {U TT : Nat} {v0 v1 : Value} {l : List Int} {i : Nat} (h : UCells W U TT v0 v1 l i) (hi : l.length ≤ i) : W.heap[U]? = some (.cells (List.toArray ([v0, v1] ++ childIds l)) TT (0, 0)) := by
 obtain ⟨arr, h1, h2, h3, h4, h5⟩ := h
 rw [h1]
 congr 2
 rw [List.take_of_length_le hi] at h5
 apply Array.ext_getElem?
 intro k
 match k with
 | 0 => rw [h3]; rfl
 | 1 => rw [h4]; rfl
 | k + 2 =>
  by_cases hk : k < 128
  ·rw [Nat.add_comm k 2, h5 k hk, List.getElem?_toArray, List.getElem?_append_right (by simp), childIds, List.getElem?_map]
   simp [hk]
  ·rw [Array.getElem?_eq_none (by omega), Array.getElem?_eq_none (by simp [childIds]; omega)]
theorem UCells.start {W : World} {U TT : Nat} {v0 v1 : Value} (l : List Int) (h : W.heap[U]? = some (.cells (uinit 128).toArray TT (0, 0))) : UCells ((W.setCell ⟨U, 0, none⟩ v0).setCell ⟨U, 1, none⟩ v1) U TT v0 v1 l 0 := by
 have hl : (uinit 128).toArray.size = 130 := rfl
 refine ⟨_, blk_set (blk_set h 0 v0) 1 v1, by simp [uinit_len 128 (Nat.le_refl _)], ?_, ?_, fun c hc => ?_⟩
 ·rw [set_get _ _ _ _ (by simp [uinit_len 128 (Nat.le_refl _)]), if_neg (by omega), set_get _ _ _ _ (by omega), if_pos rfl]
 ·rw [set_get _ _ _ _ (by simp [uinit_len 128 (Nat.le_refl _)]), if_pos rfl]
 ·rw [set_get _ _ _ _ (by simp [uinit_len 128 (Nat.le_refl _)]), if_neg (by omega), set_get _ _ _ _ (by omega), if_neg (by omega), uinit_m1 128 c hc]
  rfl
theorem al256 : Tryz.prog.arrayLen 256 = 128 := by kernel_rfl
theorem el256 : Tryz.prog.elem 256 = 3 := by kernel_rfl
theorem sz3 (W : World) : (sizeOf 3).run Tryz.prog W = .ok 1 W := by kernel_rfl
theorem slice_l (U i : Nat) (h0 : 0 < i) (hi : i < 128) (W : World) : (Instr.sliceAt 256 (.pointer (some ⟨U, 2, none⟩)) (some (.int .i64 (i : Int))) none none).run Tryz.prog W = .ok (.slice (some ⟨U, 2 + i, none⟩) (128 - i) (128 - i)) W := by
 have h := run_sliceAt_array_l (P := Tryz.prog) W 256 ⟨U, 2, none⟩ (by rw [al256, el256]; exact Tryz.underlying256) .i64 (i : Int) (by omega) (by rw [al256]; omega)
 rw [h, el256, sz3, al256]
 have e1 : ¬ (128 = i) := by omega
 have e2 : ¬ (i = 0) := by omega
 simp [Result.andThen, slicedAt, Addr.add, e1, e2]
theorem slice_h (U i : Nat) (hi : i < 128) (W : World) : (Instr.sliceAt 256 (.pointer (some ⟨U, 2, none⟩)) none (some (.int .i64 (i : Int))) none).run Tryz.prog W = .ok (.slice (some ⟨U, 2, none⟩) i 128) W := by
 have h := run_sliceAt_array_h (P := Tryz.prog) W 256 ⟨U, 2, none⟩ (by rw [al256, el256]; exact Tryz.underlying256) .i64 (i : Int) (by omega) (by rw [al256]; omega)
 rw [h, el256, sz3, al256]
 simp [Result.andThen, slicedAt, Addr.add]
theorem init104 (U TT n c c' : Nat) (A A' : Option Addr) (l : List Int) (w : World) (hU : w.heap[U]? = some (.cells (uinit 0).toArray TT (0, 0))) (hn : l.length = n) (hl : n < 2 ^ 30) (hC : CodesAt w A' l) (hA : ∀ ad, A' = some ad → ad.block < U) (hr : ∀ x ∈ l, 0 ≤ x ∧ x ≤ 126) (hd : l.Nodup) :
 Calls Tryz.prog 104 #[.pointer (some ⟨U, 0, none⟩), .slice A n c, .slice A' n c'] w fun e w' => e = .returned (.tuple #[]) ∧ w'.heap[U]? = some (.cells (List.toArray ([Value.slice A n c, .slice A' n c'] ++ childIds l)) TT (0, 0)) ∧ Below U w w' := by
 have x2 : w.cell? ⟨U, 2, none⟩ = some (.int .i64 0) := (blk_cell hU 2).trans rfl
 have f2 := blk_frozen hU 2
 have HH := Aside0.mk (And.intro hU (And.intro hC (And.intro hr (And.intro hd (And.intro hn hA)))))
 clear hC hr hd hn hU hA
 go_enter Tryz.func104, Tryz.ntmps104
 go_wp2
 refine wp_at ?_
 intro w0 hw0
 have hU := HH.out.1
 have h0 : w0.heap[U]? = some (.cells (uinit 1).toArray TT (0, 0)) := by rw [hw0]; exact blk_put_at hU rfl
 have g0 : Below U w w0 := by rw [hw0]; exact (Below.refl U w).setCell (p := ⟨U, 2, none⟩) (Nat.le_refl _) _
 have HS := Aside0.mk (And.intro h0 g0)
 clear hw0 h0 g0 hU x2 f2
 go_loopg [6] 7 (fun kq v6 wr => ∃ i : Nat, v6 = .int .i64 (i : Int) ∧ Aside0 (i * 2 ^ kq = 128 ∧ wr.heap[U]? = some (.cells (uinit i).toArray TT (0, 0)) ∧ Below U w wr))
 case atStart => exact ⟨1, rfl, ⟨⟨by decide, HS.out.1, HS.out.2⟩⟩⟩
 case round =>
  obtain ⟨i, rfl, hL⟩ := hrel
  obtain ⟨l1, l2, l3⟩ := hL.out
  cases gk with
  | succ gk =>
   have hi : 2 * i ≤ 128 ∧ 0 < i := by
    rw [Nat.pow_succ] at l1
    have h1 : 0 < 2 ^ gk := Nat.two_pow_pos gk
    have h3 : (2 * i) * 1 ≤ (2 * i) * 2 ^ gk := Nat.mul_le_mul_left _ h1
    have h4 : (2 * i) * 2 ^ gk = 128 := by rw [← l1, Nat.mul_comm 2 i, Nat.mul_assoc, Nat.mul_comm 2]
    refine ⟨by omega, ?_⟩
    rcases Nat.eq_zero_or_pos i with e | e
    ·rw [e] at l1; omega
    ·exact e
   have hd : decide ((i : Int) < 128) = true := by simp; omega
   have i0 : (0 : Int) ≤ (i : Int) := by omega
   have i1 : (i : Int) ≤ 64 := by omega
   have i2 : i ≤ 128 := by omega
   have sl := slice_l U i (by omega) (by omega)
   have sh := slice_h U i (by omega)
   have HK := Aside0.mk (And.intro l1 (And.intro l2 (And.intro l3 hi)))
   clear l1 l2 l3 hi
   go_upto_region 4 with fail
   refine wp_at ?_
   intro w1 hw1
   have b1 : w1.drew.heap[U]? = some (.cells (uinit i).toArray TT (0, 0)) := by rw [hw1]; exact HK.out.2.1
   have g1 : Below U w w1.drew := by rw [hw1]; exact HK.out.2.2.1.drew
   clear hw1
   refine start_ (n := 11) (S := fun w' => w'.heap[U]? = some (.cells (uinit i).toArray TT (0, 0))) (ds := [10]) (ba 11 0) (by kernel_rfl) rfl rfl b1 (fun hHeld => ?_)
   refine pu 0 17 1 ?_
   refine pu 1 18 3 ?_
   refine pu 2 19 7 ?_
   refine pu 3 20 15 ?_
   refine pu 4 21 31 ?_
   refine pu 5 22 63 ?_
   refine pu 6 23 127 ?_
   refine pu 7 24 255 ?_
   refine pu 8 25 511 ?_
   refine pu 9 26 1023 ?_
   refine last_ (i := 10) (N := some 27) (ba 11 2047) rfl rfl (by kernel_rfl) (by decide) (fun K hK => ?_)
   refine step_copy_splice rfl (.tmp 21) (.tmp 26) 26 26 rfl 3 Tryz.underlying26 (by kernel_rfl) _ _ _ _ _ _ rfl rfl U (2 + i) (uinit i) TT hHeld (List.replicate i (.int .i64 (-1))) (by rw [List.length_replicate]; exact (Nat.min_eq_left (by have := HK.out.2.2.2.1; omega)).symm) (fun _ => ⟨rfl, _, rfl, fun j v hv => ?_⟩) (by rw [uinit_len i i2, List.length_replicate]; have := HK.out.2.2.2.1; omega) (fun v hv => by rw [List.eq_of_mem_replicate hv]; rfl) U w1.drew ⟨rfl, rfl, rfl, Nat.le_refl _, fun _ _ => rfl⟩ (Nat.le_refl _) ?_
   ·have hj : j < i := by have := (List.getElem?_eq_some_iff.1 hv).1; rw [List.length_replicate] at this; exact this
    rw [List.getElem?_replicate, if_pos hj] at hv
    rw [add_two U j, blk_cell hHeld, uinit_m1 i j hj]
    exact hv
   intro w2 hc2 hb2
   refine hK.out _ _ ?_
   clear hK K
   refine done_ (by kernel_rfl) ?_
   have h2 := hc2.out
   rw [uinit_splice i HK.out.2.2.2.1] at h2
   have B2 : Below U w w2 := ⟨hb2.os.trans g1.os, hb2.tape.trans g1.tape, hb2.output.trans g1.output, Nat.le_trans g1.size hb2.size, fun k hk => (hb2.block k hk).trans (g1.block k hk)⟩
   have HE := Aside0.mk (And.intro h2 B2)
   clear hc2 hb2 h2 B2 hHeld b1 g1 sl sh
   have e1 : IntKind.i64.wrap ((i : Int) * 2) = (i : Int) * 2 := by rw [i64_w]; unfold wrap64; omega
   go_wp2
   go_roundg gk
   case measure => omega
   case rel =>
    refine ⟨2 * i, by congr 1; omega, ⟨⟨?_, HE.out.1, HE.out.2⟩⟩⟩
    have := HK.out.1
    rw [Nat.pow_succ] at this
    rw [← this, Nat.mul_comm 2 i, Nat.mul_assoc, Nat.mul_comm 2]
  | zero =>
   have hi : i = 128 := by simpa using l1
   subst hi
   have y0 : wr.cell? ⟨U, 0, none⟩ = some (.slice none 0 0) := (blk_cell l2 0).trans rfl
   have y1 : wr.cell? ⟨U, 1, none⟩ = some (.slice none 0 0) := (blk_cell l2 1).trans rfl
   have f0 := blk_frozen l2 0
   have f1 := blk_frozen l2 1
   have HL := Aside0.mk (And.intro l2 l3)
   clear l1 l2 l3
   go_wp2
   refine wp_at ?_
   intro w5 hw5
   have c5 : UCells w5 U TT (.slice A n c) (.slice A' n c') l 0 := by rw [hw5]; exact UCells.start l HL.out.1
   have b5 : Below U w w5 := by rw [hw5]; exact (HL.out.2.setCell (p := ⟨U, 0, none⟩) (Nat.le_refl _) _).setCell (p := ⟨U, 1, none⟩) (Nat.le_refl _) _
   have HT := Aside0.mk (And.intro c5 b5)
   clear hw5 c5 b5 y0 y1 f0 f1
   go_loopg [41] n (fun kq v41 wr => ∃ i : Nat, v41 = .int .i64 (i : Int) ∧ Aside0 (i + kq = n ∧ UCells wr U TT (.slice A n c) (.slice A' n c') l i ∧ Below U w wr))
   case atStart => exact ⟨0, rfl, ⟨⟨by omega, HT.out.1, HT.out.2⟩⟩⟩
   case round =>
    obtain ⟨i, rfl, hL⟩ := hrel
    by_cases hi : i < n
    ·have hd : decide ((i : Int) < (n : Int)) = true := by simpa using hi
     obtain ⟨_, hC, hr, hnd, hn, hA⟩ := HH.out
     obtain ⟨l1, l2, l3⟩ := hL.out
     have hil : i < l.length := by omega
     obtain ⟨ad, rfl, hrow⟩ := hC (by omega)
     have x0 : wr.cell? (ad.add i) = some (.int .i8 l[i]) := by
      rw [l3.cell (p := ad.add i) (by rw [show (ad.add i).block = ad.block from by unfold Addr.add; split <;> rfl]; exact hA ad rfl)]
      exact hrow i hil
     have hrx := hr _ (List.getElem_mem hil)
     obtain ⟨x, hx⟩ : ∃ x : Nat, l[i] = (x : Int) := ⟨l[i].toNat, by omega⟩
     rw [hx] at x0
     obtain ⟨arr, k1, k2, k3, k4, k5⟩ := l2
     have c1 : x < 128 := by omega
     have y2 : wr.cell? ⟨U, 2 + x, none⟩ = some (.int .i64 (childOf (l.take i) x)) := by rw [blk_cell k1]; exact k5 x c1
     have f2 := blk_frozen k1 (2 + x)
     have c0 : (x : Int) < 128 := by omega
     have HK := Aside0.mk (And.intro hx hnd)
     clear hC hr hnd hn hA l1 l3 hrow hrx hx k1 k2 k3 k4 k5
     go_wp2
     have l1 := hL.out.1
     go_roundg (n - (i + 1))
     case measure => omega
     case rel => exact ⟨i + 1, by go_num, ⟨⟨by omega, hL.out.2.1.step hil HK.out.2 x HK.out.1 c1, hL.out.2.2.setCell (p := ⟨U, 2 + x, none⟩) (Nat.le_refl _) _⟩⟩⟩
    ·have hd : decide ((i : Int) < (n : Int)) = false := by simpa using hi
     go_wp2
     go_end0
     obtain ⟨_, hC, hr, hnd, hn, hA⟩ := HH.out
     exact ⟨rfl, hL.out.2.1.all (by omega), hL.out.2.2⟩
theorem load_row_run {P : Program} {o : Oper} {a : Act} (ty : TypeId) (x : Operand) (ho : o.op = .load ty x) (g : Nat) (hx : a.eval x = .pointer (some ⟨g, 0, none⟩)) {w : World} {t : TypeId} {cs : Array Value} {d : TypeDesc} (hg : w.heap[g]? = some (.cells cs t (0, 0)))
 (hu : P.underlying ty = some d) (hd : (match d with | .struct _ | .array _ _ => true | _ => false) = true) (hi : (P.info? ty).map (·.size) = some cs.size) : (execOp a.eval o).run P w = .ok (.value (.agg cs)) w := by
 unfold execOp
 simp only [ho, hx, Instr.loadAt, Instr.sureAddr, Sem.run_bind, Sem.run_pure, Result.andThen_ok, run_loadVar_row w g t ty cs (0, 0) d hg hu hd hi]
theorem mode103 (X : Array Value) (w : World) : Calls Tryz.prog 103 #[.agg X] w fun e w' => e = .returned (.int .i8 2) ∧ Below w.heap.size w w' := by
 go_enter Tryz.func103, Tryz.ntmps103
 go_wp2
 go_ret
 exact ⟨rfl, bl⟩
theorem mode105 (X : Array Value) (w : World) : Calls Tryz.prog 105 #[.agg X] w fun e w' => e = .returned (.int .i8 3) ∧ Below w.heap.size w w' := by
 go_enter Tryz.func105, Tryz.ntmps105
 go_wp2
 go_ret
 exact ⟨rfl, bl⟩
theorem union86 (A A' : Option Addr) (n c c' : Nat) (l : List Int) (w : World) (hn : l.length = n) (hl : n < 2 ^ 30) (hC : CodesAt w A' l) (hA : ∀ ad, A' = some ad → ad.block < w.heap.size) (hr : ∀ x ∈ l, 0 ≤ x ∧ x ≤ 126) (hd : l.Nodup) :
 Calls Tryz.prog 86 #[.slice A n c, .slice A' n c'] w (NewAt w ([.slice A n c, .slice A' n c'] ++ childIds l) 260) := by
 have HH := Aside0.mk (And.intro hn (And.intro hC (And.intro hA (And.intro hr hd))))
 clear hC hr hd hn hA
 go_enter Tryz.func86, Tryz.ntmps86
 go_upto_region 2 with fail
 refine wp_at ?_
 intro w1 hw1
 obtain ⟨X, hX⟩ : ∃ X : Array Value, X = (uinit 0).toArray := ⟨_, rfl⟩
 have b1 : w1.drew.heap[w.heap.size]? = some (.cells X 260 (0, 0)) := by rw [hw1, hX]; exact blk_drew_ (blk_new_at rfl)
 have B1 : Below w.heap.size w w1.drew := by rw [hw1]; exact ((Below.refl _ _).alloc (Nat.le_refl _) _).drew
 have hXs : (Tryz.prog.info? 260).map (·.size) = some X.size := by rw [hX]; kernel_rfl
 clear hw1
 refine start_ (n := 11) (S := fun w' => w'.heap[w.heap.size]? = some (.cells X 260 (0, 0))) (ds := []) (ba 11 0) (by kernel_rfl) rfl rfl b1 (fun hHeld => ?_)
 refine pu 0 9 1 ?_
 refine pu 1 10 3 ?_
 refine pu 2 11 7 ?_
 refine pu 3 12 15 ?_
 refine pu 4 13 31 ?_
 refine pu 5 14 63 ?_
 refine pu 6 15 127 ?_
 refine take_ (i := 7) (N := some 16) (v := .agg X) (a' := ?_) (ba 11 255) rfl rfl (by kernel_rfl) (fun _ _ _ h => h) (Or.inl ⟨by rfl, fun w' s0 => load_row_run 260 (.tmp 15) rfl w.heap.size rfl s0 Tryz.underlying260 rfl hXs⟩) hHeld ?_ ?_
 rotate_left
 ·simp only [Act.put, s1_, s2_, s3_, i64_w, i32_w]
  rfl
 refine one_ (i := 8) (N := some 17) (ba 11 511) rfl rfl (by kernel_rfl) (by decide) (fun K hK => ?_)
 refine goes_ Tryz.func103 (by kernel_rfl) rfl #[(.agg X)] (by rfl) rfl rfl (by (try simp only [List.map_toArray, List.map_cons, List.map_nil]); rfl) ?_
 refine (mode103 _ _).mono ?_
 rintro e w2 ⟨rfl, hb⟩
 refine ⟨_, rfl, ?_⟩
 have b2 := blk_below b1 hb
 have B2 := below_step B1 hb
 clear b1 B1 hb
 refine hK.out _ _ b2 (fun hHeld => ?_)
 clear hK K
 refine norm_ (a' := ?_) ?_ ?_
 rotate_left
 ·show Act.put _ (some 17) _ = _
  simp only [Act.put, s1_, s2_, s3_]
  rfl
 refine one_ (i := 9) (N := some 18) (ba 11 1023) rfl rfl (by kernel_rfl) (by decide) (fun K hK => ?_)
 refine goes_ Tryz.func102 (by kernel_rfl) rfl #[(.pointer (some ⟨w.heap.size, 0, none⟩)), (.slice A n c), (.slice A' n c'), (.int .i8 2)] (by rfl) rfl rfl (by (try simp only [List.map_toArray, List.map_cons, List.map_nil]); rfl) ?_
 refine (valid102 _ A n c c' l _ w2 A' HH.out.1 hl (HH.out.2.1.below B2) HH.out.2.2.2.1 HH.out.2.2.2.2).mono ?_
 rintro e w3 ⟨rfl, hb⟩
 refine ⟨_, rfl, ?_⟩
 have b3 := blk_below b2 hb
 have B3 := below_step B2 hb
 clear b2 B2 hb
 refine hK.out _ _ b3 (fun hHeld => ?_)
 clear hK K
 refine norm_ (a' := ?_) ?_ ?_
 rotate_left
 ·show Act.put _ (some 18) _ = _
  simp only [Act.put, s1_, s2_, s3_]
  rfl
 refine pu 10 6 2047 ?_
 refine done_ (by kernel_rfl) ?_
 clear hHeld
 rw [hX] at b3
 have HE := Aside0.mk (And.intro b3 B3)
 clear b3 B3 hX hXs
 go_wp2_with (go_at_call 104; fail)
 refine (init104 w.heap.size 260 n c c' A A' l w3 HE.out.1 HH.out.1 hl (HH.out.2.1.below HE.out.2) HH.out.2.2.1 HH.out.2.2.2.1 HH.out.2.2.2.2).mono ?_
 rintro e w4 ⟨rfl, hU, hb⟩
 have HF := Aside0.mk (And.intro hU hb)
 clear hU hb
 go_wp2
 go_ret
 obtain ⟨hU, hb⟩ := HF.out
 obtain ⟨_, B3⟩ := HE.out
 exact ⟨_, rfl, Nat.le_refl _, hU, hb.os.trans B3.os, hb.tape.trans B3.tape, hb.output.trans B3.output, Nat.le_trans B3.size hb.size, fun k hk => (hb.block k hk).trans (B3.block k hk)⟩
theorem union87 (A A' : Option Addr) (n c c' : Nat) (l : List Int) (w : World) (hn : l.length = n) (hl : n < 2 ^ 30) (hC : CodesAt w A' l) (hA : ∀ ad, A' = some ad → ad.block < w.heap.size) (hr : ∀ x ∈ l, 0 ≤ x ∧ x ≤ 126) (hd : l.Nodup) :
 Calls Tryz.prog 87 #[.slice A n c, .slice A' n c'] w (NewAt w ([.slice A n c, .slice A' n c'] ++ childIds l) 263) := by
 have HH := Aside0.mk (And.intro hn (And.intro hC (And.intro hA (And.intro hr hd))))
 clear hC hr hd hn hA
 go_enter Tryz.func87, Tryz.ntmps87
 go_upto_region 2 with fail
 refine wp_at ?_
 intro w1 hw1
 obtain ⟨X, hX⟩ : ∃ X : Array Value, X = (uinit 0).toArray := ⟨_, rfl⟩
 have b1 : w1.drew.heap[w.heap.size]? = some (.cells X 263 (0, 0)) := by rw [hw1, hX]; exact blk_drew_ (blk_new_at rfl)
 have B1 : Below w.heap.size w w1.drew := by rw [hw1]; exact ((Below.refl _ _).alloc (Nat.le_refl _) _).drew
 have hXs : (Tryz.prog.info? 263).map (·.size) = some X.size := by rw [hX]; kernel_rfl
 clear hw1
 refine start_ (n := 11) (S := fun w' => w'.heap[w.heap.size]? = some (.cells X 263 (0, 0))) (ds := []) (ba 11 0) (by kernel_rfl) rfl rfl b1 (fun hHeld => ?_)
 refine pu 0 9 1 ?_
 refine pu 1 10 3 ?_
 refine pu 2 11 7 ?_
 refine pu 3 12 15 ?_
 refine pu 4 13 31 ?_
 refine pu 5 14 63 ?_
 refine pu 6 15 127 ?_
 refine take_ (i := 7) (N := some 16) (v := .agg X) (a' := ?_) (ba 11 255) rfl rfl (by kernel_rfl) (fun _ _ _ h => h) (Or.inl ⟨by rfl, fun w' s0 => load_row_run 263 (.tmp 15) rfl w.heap.size rfl s0 Tryz.underlying263 rfl hXs⟩) hHeld ?_ ?_
 rotate_left
 ·simp only [Act.put, s1_, s2_, s3_, i64_w, i32_w]
  rfl
 refine one_ (i := 8) (N := some 17) (ba 11 511) rfl rfl (by kernel_rfl) (by decide) (fun K hK => ?_)
 refine goes_ Tryz.func105 (by kernel_rfl) rfl #[(.agg X)] (by rfl) rfl rfl (by (try simp only [List.map_toArray, List.map_cons, List.map_nil]); rfl) ?_
 refine (mode105 _ _).mono ?_
 rintro e w2 ⟨rfl, hb⟩
 refine ⟨_, rfl, ?_⟩
 have b2 := blk_below b1 hb
 have B2 := below_step B1 hb
 clear b1 B1 hb
 refine hK.out _ _ b2 (fun hHeld => ?_)
 clear hK K
 refine norm_ (a' := ?_) ?_ ?_
 rotate_left
 ·show Act.put _ (some 17) _ = _
  simp only [Act.put, s1_, s2_, s3_]
  rfl
 refine one_ (i := 9) (N := some 18) (ba 11 1023) rfl rfl (by kernel_rfl) (by decide) (fun K hK => ?_)
 refine goes_ Tryz.func102 (by kernel_rfl) rfl #[(.pointer (some ⟨w.heap.size, 0, none⟩)), (.slice A n c), (.slice A' n c'), (.int .i8 3)] (by rfl) rfl rfl (by (try simp only [List.map_toArray, List.map_cons, List.map_nil]); rfl) ?_
 refine (valid102 _ A n c c' l _ w2 A' HH.out.1 hl (HH.out.2.1.below B2) HH.out.2.2.2.1 HH.out.2.2.2.2).mono ?_
 rintro e w3 ⟨rfl, hb⟩
 refine ⟨_, rfl, ?_⟩
 have b3 := blk_below b2 hb
 have B3 := below_step B2 hb
 clear b2 B2 hb
 refine hK.out _ _ b3 (fun hHeld => ?_)
 clear hK K
 refine norm_ (a' := ?_) ?_ ?_
 rotate_left
 ·show Act.put _ (some 18) _ = _
  simp only [Act.put, s1_, s2_, s3_]
  rfl
 refine pu 10 6 2047 ?_
 refine done_ (by kernel_rfl) ?_
 clear hHeld
 rw [hX] at b3
 have HE := Aside0.mk (And.intro b3 B3)
 clear b3 B3 hX hXs
 go_wp2_with (go_at_call 104; fail)
 refine (init104 w.heap.size 263 n c c' A A' l w3 HE.out.1 HH.out.1 hl (HH.out.2.1.below HE.out.2) HH.out.2.2.1 HH.out.2.2.2.1 HH.out.2.2.2.2).mono ?_
 rintro e w4 ⟨rfl, hU, hb⟩
 have HF := Aside0.mk (And.intro hU hb)
 clear hU hb
 go_wp2
 go_ret
 obtain ⟨hU, hb⟩ := HF.out
 obtain ⟨_, B3⟩ := HE.out
 exact ⟨_, rfl, Nat.le_refl _, hU, hb.os.trans B3.os, hb.tape.trans B3.tape, hb.output.trans B3.output, Nat.le_trans B3.size hb.size, fun k hk => (hb.block k hk).trans (B3.block k hk)⟩
end Go.Proofs.YteebgnhhjlgnjaaGreatDoor.V
