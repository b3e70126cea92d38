/- impl.schemaBack and arrow.Schema.AddField. -/
import Derived.Test.YteebgnhhjlgnjaaGreatDoorB11
namespace Go.Proofs.YteebgnhhjlgnjaaGreatDoor.V
open Go.RowKit Go.Proofs.YteebgnhhjlgnjaaGreatDoorW.PrintWords Go.Proofs.YteebgnhhjlgnjaaGreatDoorW.PrintLast Go.Proofs.YteebgnhhjlgnjaaGreatDoorW.PrintMore
set_option maxHeartbeats 40000000
set_option maxRecDepth 100000
set_option linter.unusedVariables false
set_option linter.unusedSimpArgs false
theorem dfs_ins {W : World} {ok : Nat → Prop} {d : DF} {c5 : List Value} (hd : DFIn W ok d c5) : ∀ (i : Nat) (ds : List DF) (cs : List Value), cs.length = ds.length * 5 → i ≤ ds.length → DFsIn W ok ds cs → DFsIn W ok (ds.take i ++ d :: ds.drop i) (cs.take (i * 5) ++ c5 ++ cs.drop (i * 5))
 | 0, ds, cs, _, _, h => by
  rw [Nat.zero_mul]
  simp only [List.take_zero, List.drop_zero, List.nil_append]
  exact ⟨c5, cs, rfl, hd, h⟩
 | i + 1, [], cs, _, hi, h => absurd hi (by simp)
 | i + 1, f :: r, cs, hc, hi, ⟨c, rest, e, hf, hr⟩ => by
  have hl := hf.len
  subst e
  have ih := dfs_ins hd i r rest (by simp at hc; omega) (by simpa using hi) hr
  refine ⟨c, _, ?_, hf, ih⟩
  rw [show (i + 1) * 5 = c.length + i * 5 by omega, List.take_append, List.drop_append]
  simp
  rw [List.take_of_length_le (show c.length ≤ c.length + i * 5 by omega), List.drop_eq_nil_of_le (show c.length ≤ c.length + i * 5 by omega)]
  simp
theorem put_take (A : Array Value) (m : Nat) (v0 v1 v2 v3 v4 : Value) (h : m + 5 ≤ A.size) : (((((A.setIfInBounds m v0).setIfInBounds (m + 1) v1).setIfInBounds (m + 2) v2).setIfInBounds (m + 3) v3).setIfInBounds (m + 4) v4).toList.take (m + 5) = A.toList.take m ++ [v0, v1, v2, v3, v4] := by
 have hl : A.toList.length = A.size := by simp
 apply List.ext_getElem?
 intro k
 rw [List.getElem?_take, Array.getElem?_toList, arr5_get A m v0 v1 v2 v3 v4 h k]
 rcases Nat.lt_or_ge k m with hk | hk
 ·rw [List.getElem?_append_left (by rw [List.length_take, hl]; omega), List.getElem?_take, if_pos (by omega), if_pos hk, if_neg (by omega), if_neg (by omega), if_neg (by omega), if_neg (by omega), if_neg (by omega), Array.getElem?_toList]
 ·rw [List.getElem?_append_right (by rw [List.length_take, hl]; omega), List.length_take, hl, Nat.min_eq_left (by omega)]
  obtain ⟨t, rfl⟩ : ∃ t, k = m + t := ⟨k - m, by omega⟩
  rw [Nat.add_sub_cancel_left]
  match t with
  | 0 => simp
  | 1 => simp
  | 2 => simp
  | 3 => simp
  | 4 => simp
  | t + 5 => simp; omega
section
variable {P : Program} {md : Region.Mode} {ops : Array Oper} {Q : Exit → Act → World → Prop} {S : World → Prop} {ds : List Nat} {n m fuel : Nat} {oi : Oper} {a a' : Act} {w : World} {l : Array Bool}
theorem rw_ (i N M : Nat) {rs_ : List Nat} (v : Value) (w1 : World) (hs' : S w1) (h : wpAnyLast P md ops Q S ds fuel (ba n M) (a.put (some N) v) w1)
 (hr : AllReadyL P md ops Q S ds fuel (ba n m) a w rs_) (hi : ops[i]? = some oi := by exact rfl) (hN : oi.dst = some N := by exact rfl)
 (hl : (ba n m).setIfInBounds i true = ba n M := by kernel_rfl) (hd : i ∉ ds := by decide) (hw : Region.wanted oi (yielded ops a.tmps) = true := by rfl) (hrun : (execOp a.eval oi).run P w = .ok (.value v) w1 := by first | (go_simp; done) | (go_simp; rfl)) : AllReadyL P md ops Q S ds fuel (ba n m) a w (i :: rs_) := by
 refine AllReadyL.cons hi hd (fun K hK => ?_) hr
 rw [hl] at hK
 rw [if_pos hw]
 unfold Oper.wp
 rw [hrun]
 show K (a.put oi.dst v) w1
 rw [hN]
 exact hK.out _ _ hs' (fun _ => h)
end
theorem copy_of {a : Act} {oi : Oper} {w w1 : World} {x y : Operand} {u v r : Value} (hop : oi.op = .call { callee := .builtin .copy, args := #[x, y], argTypes := #[79, 79] }) (ht : oi.type = 3) (hx : a.eval x = u) (hy : a.eval y = v) (h : (Builtin.copy_ #[79, 79] 3 #[u, v]).run Tryz.prog w = .ok r w1) : (execOp a.eval oi).run Tryz.prog w = .ok (.value r) w1 := by
 unfold execOp
 simp only [hop, resolve, invoke, builtin, Sem.run_bind, Sem.run_pure, Result.andThen_ok, List.map_toArray, List.map_cons, List.map_nil, hx, hy, ht, h]
theorem err46 (s : ByteArray) (w : World) : Calls Tryz.prog 46 #[.string s] w fun e w' => (∃ q a, e = .returned (.iface q (.pointer (some a)))) ∧ Below w.heap.size w w' := by
 go_enter Tryz.func46, Tryz.ntmps46
 go_wp2
 go_ret
 exact ⟨⟨_, _, rfl⟩, bl⟩
theorem meta51 (T : Nat) (K V : Option Addr) (n k v : Nat) (w : World) (h2 : w.cell? ⟨T, 2, none⟩ = some (.slice K n k)) (h3 : w.cell? ⟨T, 3, none⟩ = some (.slice V n v)) : Calls Tryz.prog 51 #[.pointer (some ⟨T, 0, none⟩)] w fun e w' => e = .returned (.agg #[.slice K n k, .slice V n v]) ∧ Below w.heap.size w w' := by
 have x2 : ∀ o, (w.alloc o).cell? ⟨T, 2, none⟩ = some (.slice K n k) := fun o => pw_cell_below bl h2
 have x3 : ∀ o, (w.alloc o).cell? ⟨T, 3, none⟩ = some (.slice V n v) := fun o => pw_cell_below bl h3
 clear h2 h3
 go_enter Tryz.func51, Tryz.ntmps51
 go_wp2
 try simp only [Exit.inBlock, Exit.then]
 refine bodyPost_ret (v := .agg #[.slice K n k, .slice V n v]) (by simp [results, Tryz.results51, go_sem]) rfl ⟨rfl, bl⟩
theorem back27 (T : Nat) (fs : List S30) (ds : List DF) (n base : Nat) (h : All2 BkF fs ds) (hl : fs.length ≤ 2000) (hn : n ≤ 1000) (w : World) (hT : SchAt Grp w base T ds n) :
 Calls Tryz.prog 27 #[.pointer (some ⟨T, 0, none⟩)] w fun e w' => (∃ A c B m d, e = .returned (.agg #[.slice A fs.length c, .slice B m d]) ∧ RowB w' w.heap.size A c fs) ∧ Below w.heap.size w w' := by
 obtain ⟨hb, F, arr, M, K, k, V, v, ok, t1, t2, t3, t4, t5, t6, _⟩ := hT
 have hlen := h.length
 have hF : FieldsC 49 (.pointer (some ⟨T, 0, none⟩)) w ds := fl_49 T ds.length (some ⟨F, 0, none⟩) ds ok w (by omega) ((blk_cell t1 0).trans rfl) (row_of t2 t4)
 have HH := Aside0.mk (And.intro hF (And.intro (backs48 fs ds h hl) (And.intro t1 (And.intro t5 (And.intro t6 hn)))))
 clear h hl hn hb t1 t2 t3 t4 t5 t6 hF hlen
 go_enter Tryz.func27, Tryz.ntmps27
 go_wp2_with (go_at_call 49; fail)
 refine calls_at ?_
 intro w1 hw1
 have b1 : Below w.heap.size w w1 := by rw [hw1]; repeat (first | exact Below.refl _ _ | apply b1_ | apply b2_ | apply b3_)
 have kB : w1.heap[w.heap.size]? = some (.cells #[.slice none 0 0, .slice none 0 0] 25 (0, 0)) := by rw [hw1]; exact blk_new _ _
 clear hw1
 refine (HH.out.1 w1 b1).mono ?_
 rintro e w2 ⟨⟨A, c, ok', rfl, hR⟩, hb2⟩
 have H2 := Aside0.mk (And.intro hR (And.intro (below_step b1 hb2) (blk_below kB hb2)))
 clear hR b1 kB hb2
 go_wp2_with (go_at_call 48; fail)
 refine (HH.out.2.1 w2 A c ok' H2.out.1).mono ?_
 rintro e w3 ⟨⟨A2, c2, rfl, hR2⟩, hb3⟩
 have H3 := Aside0.mk (And.intro (below_step H2.out.2.1 hb3) (And.intro (blk_below H2.out.2.2 hb3) (And.intro hR2 (blk_lt H2.out.2.2))))
 clear hR2 hb3
 go_wp2_with (go_at_call 51; fail)
 refine (meta51 T K V n k v w3 ((blk_cell (blk_below HH.out.2.2.1 H3.out.1) 2).trans rfl) ((blk_cell (blk_below HH.out.2.2.1 H3.out.1) 3).trans rfl)).mono ?_
 rintro e w4 ⟨rfl, hb4⟩
 have H4 := Aside0.mk (And.intro (below_step H3.out.1 hb4) (And.intro (blk_below H3.out.2.1 hb4) (H3.out.2.2.1.below hb4)))
 clear hb4
 go_wp2_with (go_at_call 50; fail)
 refine (meta50n n K V k v HH.out.2.2.2.2.2 w4 (HH.out.2.2.2.1.below H4.out.1) (HH.out.2.2.2.2.1.below H4.out.1)).mono ?_
 rintro e w5 ⟨⟨B, m, d, rfl⟩, hb5⟩
 have H5 := Aside0.mk (And.intro (below_step H4.out.1 hb5) (And.intro (blk_below H4.out.2.1 hb5) (H4.out.2.2.below hb5)))
 clear hb5
 have z0 := (blk_cell H5.out.2.1 0).trans (show _ = some (.slice none 0 0 : Value) from rfl)
 have z1 := (blk_cell H5.out.2.1 1).trans (show _ = some (.slice none 0 0 : Value) from rfl)
 have f0 := blk_frozen H5.out.2.1 0
 have f1 := blk_frozen H5.out.2.1 1
 go_wp2
 try simp only [Exit.inBlock, Exit.then]
 have hr : RowB ((w5.setCell ⟨w.heap.size, 0, none⟩ (.slice A2 fs.length c2)).setCell ⟨w.heap.size, 1, none⟩ (.slice B m d)) w.heap.size A2 c2 fs := H5.out.2.2.step (fun k hk _ => by
  have h1 := H3.out.2.2.2
  rw [heap_setCell_other _ _ _ _ (show k ≠ w.heap.size by omega), heap_setCell_other _ _ _ _ (show k ≠ w.heap.size by omega)]) (by have := H3.out.2.2.2; omega)
 refine bodyPost_ret (v := .agg #[.slice A2 fs.length c2, .slice B m d]) (by simp [results, Tryz.results27, go_sem, z0, z1]) rfl ⟨⟨A2, c2, B, m, d, rfl, hr⟩, ?_⟩
 exact (H5.out.1.setCell (p := ⟨w.heap.size, 0, none⟩) (Nat.le_refl _) _).setCell (p := ⟨w.heap.size, 1, none⟩) (Nat.le_refl _) _
theorem add25_no (T : Nat) (ds : List DF) (m base : Nat) (at_ : Int) (hat : at_ < 0 ∨ (ds.length : Int) < at_) (nm : ByteArray) (fq : TypeId) (fa : Addr) (fb : Bool) (FV : Value) (hFV : FV = .agg #[.string nm, .iface fq (.pointer (some fa)), .bool fb, .slice none 0 0, .slice none 0 0]) (w : World) (hT : SchAt Grp w base T ds m) :
 Calls Tryz.prog 25 #[.pointer (some ⟨T, 0, none⟩), .int .i64 at_, FV] w fun e w' => (∃ q a, e = .returned (.tuple #[.pointer none, .iface q (.pointer (some a))])) ∧ Below w.heap.size w w' := by
 subst hFV
 obtain ⟨hb, F, arr, M, K, k, V, v, ok, t1, _⟩ := hT
 obtain ⟨n, hn⟩ : ∃ n, n = ds.length := ⟨_, rfl⟩
 rw [← hn] at hat t1
 clear hn
 have x0 : ∀ o, (w.alloc o).cell? ⟨T, 0, none⟩ = some (.slice (some ⟨F, 0, none⟩) n n) := fun o => pw_cell_below bl ((blk_cell t1 0).trans rfl)
 clear t1
 by_cases h0 : at_ < 0
 ·have q0 : decide (at_ < 0) = true := decide_eq_true h0
  have q1 : (at_ < 0) = True := eq_true h0
  clear hat h0
  go_enter Tryz.func25, Tryz.ntmps25
  go_wp2_with (go_at_call 46; fail)
  refine calls_at ?_
  intro w1 hw1
  have b1 : Below w.heap.size w w1 := by rw [hw1]; repeat (first | exact Below.refl _ _ | apply b1_ | apply b2_ | apply b3_)
  clear hw1
  refine (err46 _ w1).mono ?_
  rintro e w2 ⟨⟨q, a, rfl⟩, hb2⟩
  have HB := Aside0.mk (below_step b1 hb2)
  clear b1 hb2
  go_wp2
  go_ret2
  exact ⟨⟨q, a, rfl⟩, HB.out⟩
 ·have hat2 : (n : Int) < at_ := hat.resolve_left h0
  have q0 : decide (at_ < 0) = false := decide_eq_false h0
  have q1 : (at_ < 0) = False := eq_false h0
  have q2 : decide ((n : Int) < at_) = true := decide_eq_true hat2
  have q3 : ((n : Int) < at_) = True := eq_true hat2
  clear hat h0 hat2
  go_enter Tryz.func25, Tryz.ntmps25
  go_wp2_with (go_at_call 46; fail)
  refine calls_at ?_
  intro w1 hw1
  have b1 : Below w.heap.size w w1 := by rw [hw1]; repeat (first | exact Below.refl _ _ | apply b1_ | apply b2_ | apply b3_)
  clear hw1
  refine (err46 _ w1).mono ?_
  rintro e w2 ⟨⟨q, a, rfl⟩, hb2⟩
  have HB := Aside0.mk (below_step b1 hb2)
  clear b1 hb2
  go_wp2
  go_ret2
  exact ⟨⟨q, a, rfl⟩, HB.out⟩
theorem add25 (T : Nat) (ds : List DF) (m base i : Nat) (hi : i ≤ ds.length) (hl : ds.length ≤ 1000) (hm : m ≤ 1000) (d : DF) (hs : ∀ e ∈ ds, e.name.size ≤ maxLen) (hsd : d.name.size ≤ maxLen) (c5 : List Value) (okd : Nat → Prop) (w : World) (hT : SchAt Grp w base T ds m) (hd : DFIn w okd d c5) :
 Calls Tryz.prog 25 #[.pointer (some ⟨T, 0, none⟩), .int .i64 (i : Int), .agg c5.toArray] w fun e w' => (∃ T', e = .returned (.tuple #[.pointer (some ⟨T', 0, none⟩), .nilIface]) ∧ SchAt Grp w' w.heap.size T' (ds.take i ++ d :: ds.drop i) m) ∧ Below w.heap.size w w' := by
 obtain ⟨nm, dt, b⟩ := d
 have hd0 := hd
 obtain ⟨x, rfl, hx⟩ := hd
 obtain ⟨q, a, rfl⟩ := hx.form
 obtain ⟨hbs, F, arr, M, K, k, V, v, ok, t1, t2, t3, t4, t5, t6, _⟩ := hT
 obtain ⟨n, hn⟩ : ∃ n, n = ds.length := ⟨_, rfl⟩
 rw [← hn] at t1 t3 hi hl
 have q0 : decide ((i : Int) < 0) = false := decide_eq_false (by omega)
 have q1 : ((i : Int) < 0) = False := eq_false (by omega)
 have q2 : decide ((n : Int) < (i : Int)) = false := decide_eq_false (by omega)
 have q3 : ((n : Int) < (i : Int)) = False := eq_false (by omega)
 have x0 : ∀ o, (w.alloc o).cell? ⟨T, 0, none⟩ = some (.slice (some ⟨F, 0, none⟩) n n) := fun o => pw_cell_below bl ((blk_cell t1 0).trans rfl)
 have HH := Aside0.mk (And.intro hn (And.intro hi (And.intro hl (And.intro hm (And.intro hs (And.intro hsd hd0))))))
 have HT := Aside0.mk (And.intro t1 (And.intro t2 (And.intro t3 (And.intro t4 (And.intro t5 t6)))))
 clear hn hi hl hm hs hsd hd0 hx t1 t2 t3 t4 t5 t6 hbs
 obtain ⟨p, hp⟩ : ∃ p, p = n + 1 := ⟨_, rfl⟩
 obtain ⟨j, hj⟩ : ∃ j, j = i + 1 := ⟨_, rfl⟩
 have hmk := make61 p (by have := HH.out.2.2.1; omega)
 have ew : wrap64 ((n : Int) + 1) = (p : Int) := by have := HH.out.2.2.1; rw [w64_id _ (by omega) (by omega)]; omega
 have ei : wrap64 ((i : Int) + 1) = (j : Int) := by have := HH.out.2.1; have := HH.out.2.2.1; rw [w64_id _ (by omega) (by omega)]; omega
 have HP := Aside0.mk (And.intro hp hj)
 have HEI := Aside0.mk ei
 clear hp hj ei
 go_enter Tryz.func25, Tryz.ntmps25
 go_upto_region 4 with fail
 refine wp_at ?_
 intro w1 hw1
 have b1 : Below w.heap.size w w1 := by rw [hw1]; repeat (first | exact Below.refl _ _ | apply b1_ | apply b2_ | apply b3_)
 have kX : w1.heap[w.heap.size]? = some (.cells #[.string nm, .iface q (.pointer (some a)), .bool b, .slice none 0 0, .slice none 0 0] 61 (0, 0)) := by rw [hw1]; exact blk_alloc_ (blk_new _ _)
 have kG : w1.heap[w.heap.size + 1]? = some (.cells (madeCells #[.string ⟨#[]⟩, .nilIface, .bool false, .slice none 0 0, .slice none 0 0] (p * 5)) 61 (0, 0)) := by rw [hw1]; exact blk_new_at (by simp)
 clear hw1 hmk ew x0
 obtain ⟨G, hG⟩ : ∃ G, G = w.heap.size + 1 := ⟨_, rfl⟩
 rw [← hG] at kG ⊢
 have yT := (blk_cell (blk_below HT.out.1 b1) 0).trans (show _ = some (.slice (some ⟨F, 0, none⟩) n n : Value) from rfl)
 have hip : ((i : Int) ≤ (p : Int)) = True := eq_true (by have := HH.out.2.1; have := HP.out.1; omega)
 have hin : ((i : Int) ≤ (n : Int)) = True := eq_true (by have := HH.out.2.1; omega)
 have hi0 : ((0 : Int) ≤ (i : Int)) = True := eq_true (by omega)
 have HG := Aside0.mk (And.intro hG (And.intro kG kX))
 refine sc 10 (fun w' => Below w.heap.size w w' ∧ w'.cell? ⟨T, 0, none⟩ = some (.slice (some ⟨F, 0, none⟩) n n)) (fun hk0 v1 hs1 hb => ?_)
 have H1 := Aside0.mk (And.intro (blk_below kG hb) (And.intro (blk_below kX hb) (And.intro hs1.1 hs1.2)))
 clear kG kX hG b1 yT hb
 refine pu 0 28 1 ?_
 refine pu 1 29 3 ?_
 refine pu 2 30 7 ?_
 refine pu 3 31 15 ?_
 refine pu 4 32 31 ?_
 refine pu 5 33 63 ?_
 refine ta 6 34 127 ?_
 refine pu 7 35 255 ?_
 refine pu 8 36 511 ?_
 obtain ⟨e1, e2, e3, e4, e5, e6⟩ := HT.out
 obtain ⟨kG, kX, b1, _⟩ := H1.out
 have hpp := HP.out.1
 have hjj := HP.out.2
 have hii := HH.out.2.1
 have hG := HG.out.1
 have hcl : arr.toList.length = n * 5 := by simpa using e3
 have a3 : (arr.toList.take (i * 5)).length = i * 5 := by rw [List.length_take, hcl]; omega
 have one : ∀ u ∈ arr.toList, u.oneCell' = true := fun u hu => dfs_one e4 u (by rw [List.take_of_length_le (by have := HH.out.1; omega)]; exact hu)
 have hcp1 := copyAt Tryz.underlying79 info61s v1 G 0 i p n (some ⟨F, 0, none⟩) _ 61 (arr.toList.take (i * 5)) kG a3 (fun _ => ⟨_, rfl, fun k u hu => by
  rw [add0_, blk_cell (blk_below e2 b1), ← Array.getElem?_toList]
  rw [List.getElem?_take] at hu
  split at hu
  ·exact hu
  ·cases hu⟩) (by rw [size_madeCells]; omega) (fun u hu => one u (List.mem_of_mem_take hu))
 rw [List.take_zero, List.nil_append, Nat.zero_add, a3] at hcp1
 obtain ⟨w2, hw2⟩ : ∃ w2, w2 = v1.setRow G (arr.toList.take (i * 5) ++ (madeCells #[.string ⟨#[]⟩, .nilIface, .bool false, .slice none 0 0, .slice none 0 0] (p * 5)).toList.drop (i * 5)).toArray := ⟨_, rfl⟩
 rw [← hw2] at hcp1
 have hFG : F ≠ G := by have := blk_lt e2; omega
 have k2 : w2.heap[G]? = some (.cells (arr.toList.take (i * 5) ++ (madeCells #[.string ⟨#[]⟩, .nilIface, .bool false, .slice none 0 0, .slice none 0 0] (p * 5)).toList.drop (i * 5)).toArray 61 (0, 0)) := by rw [hw2]; exact setRow_heap _ _ _ _ _ _ kG
 have b2 : Below w.heap.size w w2 := by rw [hw2]; exact below_setRow b1 (by omega) _
 have k2X : w2.heap[w.heap.size]? = some (.cells #[.string nm, .iface q (.pointer (some a)), .bool b, .slice none 0 0, .slice none 0 0] 61 (0, 0)) := by rw [hw2]; exact (setRow_other _ _ _ _ (by omega)).trans kX
 have y2 : w2.cell? ⟨T, 0, none⟩ = some (.slice (some ⟨F, 0, none⟩) n n) := pw_cell_below b2 ((blk_cell e1 0).trans rfl)
 have HK := Aside0.mk (And.intro b2 (And.intro k2 (And.intro k2X (And.intro hFG (And.intro hcl one)))))
 clear kG kX e1 e2 e3 e4 e5 e6 hpp hjj hii hcl a3 one hw2 hFG k2 k2X hG
 refine rdy [9] (rw_ 9 37 1023 (goInt i) w2 ⟨b2, y2⟩ (no 37 ?_) rn (hrun := copy_of (by rfl) (by rfl) (by rfl) (by rfl) hcp1))
 refine done_ (by kernel_rfl) ?_
 clear hcp1 hk0 hs1 b1 b2 y2
 obtain ⟨b2, k2, k2X, hFG, hcl, one⟩ := HK.out
 have hs2 : (arr.toList.take (i * 5) ++ (madeCells #[.string ⟨#[]⟩, .nilIface, .bool false, .slice none 0 0, .slice none 0 0] (p * 5)).toList.drop (i * 5)).toArray.size = p * 5 := by
  simp only [List.size_toArray, List.length_append, List.length_take, List.length_drop, hcl, Array.length_toList, size_madeCells]
  have := HH.out.2.1
  have := HP.out.1
  omega
 obtain ⟨A2, hA2⟩ : ∃ A2, A2 = (arr.toList.take (i * 5) ++ (madeCells #[.string ⟨#[]⟩, .nilIface, .bool false, .slice none 0 0, .slice none 0 0] (p * 5)).toList.drop (i * 5)).toArray := ⟨_, rfl⟩
 rw [← hA2] at k2 hs2
 have hi5 : i * 5 + 5 ≤ A2.size := by have := HH.out.2.1; have := HP.out.1; omega
 obtain ⟨x0, x1, x2, x3, x4⟩ := (show w2.cell? ⟨w.heap.size, 0, none⟩ = some (.string nm) ∧ w2.cell? ⟨w.heap.size, 1, none⟩ = some (.iface q (.pointer (some a))) ∧ w2.cell? ⟨w.heap.size, 2, none⟩ = some (.bool b) ∧ w2.cell? ⟨w.heap.size, 3, none⟩ = some (.slice none 0 0) ∧ w2.cell? ⟨w.heap.size, 4, none⟩ = some (.slice none 0 0) from ⟨(blk_cell k2X 0).trans rfl, (blk_cell k2X 1).trans rfl, (blk_cell k2X 2).trans rfl, (blk_cell k2X 3).trans rfl, (blk_cell k2X 4).trans rfl⟩)
 obtain ⟨u0, y0⟩ : ∃ e, w2.cell? ⟨G, i * 5, none⟩ = some e := by rw [blk_cell k2]; exact ⟨_, Array.getElem?_eq_getElem (by omega)⟩
 have f0 := blk_frozen k2 (i * 5)
 obtain ⟨u1, y1⟩ : ∃ e, w2.cell? ⟨G, i * 5 + 1, none⟩ = some e := by rw [blk_cell k2]; exact ⟨_, Array.getElem?_eq_getElem (by omega)⟩
 have f1 := blk_frozen k2 (i * 5 + 1)
 obtain ⟨u2, y2⟩ : ∃ e, w2.cell? ⟨G, i * 5 + 2, none⟩ = some e := by rw [blk_cell k2]; exact ⟨_, Array.getElem?_eq_getElem (by omega)⟩
 have f2 := blk_frozen k2 (i * 5 + 2)
 obtain ⟨u3, y3⟩ : ∃ e, w2.cell? ⟨G, i * 5 + 3, none⟩ = some e := by rw [blk_cell k2]; exact ⟨_, Array.getElem?_eq_getElem (by omega)⟩
 have f3 := blk_frozen k2 (i * 5 + 3)
 obtain ⟨u4, y4⟩ : ∃ e, w2.cell? ⟨G, i * 5 + 4, none⟩ = some e := by rw [blk_cell k2]; exact ⟨_, Array.getElem?_eq_getElem (by omega)⟩
 have f4 := blk_frozen k2 (i * 5 + 4)
 have hlt : ((i : Int) < (p : Int)) = True := eq_true (by have := HH.out.2.1; have := HP.out.1; omega)
 have hlt2 : (i < p) = True := eq_true (by have := HH.out.2.1; have := HP.out.1; omega)
 have H2 := Aside0.mk (And.intro b2 (And.intro k2 (And.intro hs2 (And.intro hi5 hA2))))
 clear b2 k2 k2X hFG hcl one hs2 hi5 hA2
 go_upto_region 6 with fail
 refine wp_at ?_
 intro w3 hw3
 have hw3' : w3 = put5 w2 G (i * 5) (.string nm) (.iface q (.pointer (some a))) (.bool b) (.slice none 0 0) (.slice none 0 0) := hw3
 clear hw3 x0 x1 x2 x3 x4 y0 y1 y2 y3 y4 f0 f1 f2 f3 f4 hlt hlt2
 obtain ⟨b2, k2, hs2, hi5, hA2⟩ := H2.out
 have k3 := put5_row (m := i * 5) k2 (.string nm) (.iface q (.pointer (some a))) (.bool b) (.slice none 0 0) (.slice none 0 0)
 have b3 := put5_below (m := i * 5) (v0 := .string nm) (v1 := .iface q (.pointer (some a))) (v2 := .bool b) (v3 := .slice none 0 0) (v4 := .slice none 0 0) b2 (show w.heap.size ≤ G by have := HG.out.1; omega)
 have htk := put_take A2 (i * 5) (.string nm) (.iface q (.pointer (some a))) (.bool b) (.slice none 0 0) (.slice none 0 0) hi5
 have hsz3 := arr5_size A2 (i * 5) (.string nm) (.iface q (.pointer (some a))) (.bool b) (.slice none 0 0) (.slice none 0 0)
 rw [← hw3'] at k3 b3
 generalize ((((A2.setIfInBounds (i * 5) (Value.string nm)).setIfInBounds (i * 5 + 1) (Value.iface q (.pointer (some a)))).setIfInBounds (i * 5 + 2) (Value.bool b)).setIfInBounds (i * 5 + 3) (Value.slice none 0 0)).setIfInBounds (i * 5 + 4) (Value.slice none 0 0) = A3 at k3 htk hsz3
 have yT := pw_cell_below b3 ((blk_cell HT.out.1 0).trans (show _ = some (.slice (some ⟨F, 0, none⟩) n n : Value) from rfl))
 have hjp : ((j : Int) ≤ (p : Int)) = True := eq_true (by have := HH.out.2.1; have h1 := HP.out.1; have := HP.out.2; omega)
 have hj0 : ((0 : Int) ≤ (j : Int)) = True := eq_true (by omega)
 have H3 := Aside0.mk (And.intro k3 (And.intro htk (And.intro hsz3 (And.intro hs2 hA2))))
 refine sc 11 (fun w' => Below w.heap.size w w' ∧ w'.cell? ⟨T, 0, none⟩ = some (.slice (some ⟨F, 0, none⟩) n n)) (fun hk0 v2 hs2' hb => ?_)
 have H4 := Aside0.mk (And.intro (blk_below k3 hb) hs2'.1)
 clear hw3' b2 k2 hs2 hi5 hA2 k3 b3 htk hsz3 yT hb
 have ei := HEI.out
 refine pu 0 42 1 ?_
 refine pu 1 43 3 ?_
 refine pu 2 44 7 ?_
 refine pu 3 45 15 ?_
 refine pu 4 46 31 ?_
 refine pu 5 47 63 ?_
 refine pu 6 48 127 ?_
 refine ta 7 49 255 ?_
 refine pu 8 50 511 ?_
 refine pu 9 51 1023 ?_
 clear ei
 have hcp2 : ∃ w4, (Builtin.copy_ #[79, 79] 3 #[.slice (if p = j then some (⟨G, 0, none⟩ : Addr) else some ⟨G, j * 5, none⟩) (p - j) (p - j), .slice (if n = i then some (⟨F, 0, none⟩ : Addr) else some ⟨F, i * 5, none⟩) (n - i) (n - i)]).run Tryz.prog v2 = .ok (goInt ((n - i : Nat) : Int)) w4 ∧ w4.heap[G]? = some (.cells (arr.toList.take (i * 5) ++ ([Value.string nm, .iface q (.pointer (some a)), .bool b, .slice none 0 0, .slice none 0 0] : List Value) ++ arr.toList.drop (i * 5)).toArray 61 (0, 0)) ∧ Below w.heap.size w w4 := by
  obtain ⟨k3, htk, hsz3, hs2, hA2⟩ := H3.out
  obtain ⟨e1, e2, e3, e4, e5, e6⟩ := HT.out
  obtain ⟨_, _, _, hFG, hcl, one⟩ := HK.out
  have hpp := HP.out.1
  have hjj := HP.out.2
  have hii := HH.out.2.1
  have hGG := HG.out.1
  have hA : A3.toList.take (j * 5) = arr.toList.take (i * 5) ++ ([Value.string nm, .iface q (.pointer (some a)), .bool b, .slice none 0 0, .slice none 0 0] : List Value) := by
   rw [show j * 5 = i * 5 + 5 by omega, htk, hA2]
   congr 1
   simp [hcl, Nat.mul_le_mul_right, hii, Nat.min_eq_left]
  have hs3 : A3.toList.length = p * 5 := by simp only [Array.length_toList]; omega
  by_cases hpj : p = j
  ·have hni : n = i := by omega
   have hcp := copyAt Tryz.underlying79 info61s v2 G 0 0 0 0 (some ⟨F, 0, none⟩) _ 61 [] H4.out.1 (by simp) (fun h => absurd h (by simp)) (by simp) (fun u hu => by simp at hu)
   refine ⟨v2.setRow G (A3.toList.take 0 ++ [] ++ A3.toList.drop (0 + ([] : List Value).length)).toArray, ?_, ?_, below_setRow H4.out.2 (show w.heap.size ≤ G by omega) _⟩
   ·rw [if_pos hpj, if_pos hni, show p - j = 0 by omega, show n - i = 0 by omega]
    exact hcp
   ·rw [setRow_heap _ _ _ _ _ _ H4.out.1]
    have h1 : (A3.toList.take 0 ++ ([] : List Value) ++ A3.toList.drop (0 + ([] : List Value).length)) = A3.toList := by simp
    have h2 : arr.toList.take (i * 5) ++ ([Value.string nm, .iface q (.pointer (some a)), .bool b, .slice none 0 0, .slice none 0 0] : List Value) ++ arr.toList.drop (i * 5) = A3.toList := by
     rw [← hA, List.drop_eq_nil_of_le (show arr.toList.length ≤ i * 5 by omega), List.append_nil, List.take_of_length_le (show A3.toList.length ≤ j * 5 by omega)]
    rw [h1, h2]
  ·have hni : n ≠ i := by omega
   have hcl2 : (arr.toList.drop (i * 5)).length = (n - i) * 5 := by rw [List.length_drop, hcl, Nat.sub_mul]
   have hcp := copyAt Tryz.underlying79 info61s v2 G (j * 5) (n - i) (n - i) (n - i) (some ⟨F, i * 5, none⟩) _ 61 (arr.toList.drop (i * 5)) H4.out.1 hcl2 (fun _ => ⟨_, rfl, fun k u hu => by
    have e0 : (⟨F, i * 5, none⟩ : Addr).add k = ⟨F, i * 5 + k, none⟩ := by unfold Addr.add; split <;> simp_all
    rw [e0, blk_cell (blk_below e2 H4.out.2), ← Array.getElem?_toList]
    rw [List.getElem?_drop] at hu
    exact hu⟩) (by rw [hcl2]; simp only [Array.length_toList] at hs3; rw [hs3, Nat.sub_mul]; omega) (fun u hu => one u (List.mem_of_mem_drop hu))
   refine ⟨v2.setRow G (A3.toList.take (j * 5) ++ arr.toList.drop (i * 5) ++ A3.toList.drop (j * 5 + (arr.toList.drop (i * 5)).length)).toArray, ?_, ?_, below_setRow H4.out.2 (show w.heap.size ≤ G by omega) _⟩
   ·rw [if_neg hpj, if_neg hni, show p - j = n - i by omega]
    exact hcp
   ·rw [setRow_heap _ _ _ _ _ _ H4.out.1]
    congr 2
    rw [hA, List.drop_eq_nil_of_le (show A3.toList.length ≤ j * 5 + (arr.toList.drop (i * 5)).length by rw [hcl2, hs3, Nat.sub_mul]; omega), List.append_nil]
 obtain ⟨w4, hcp, k4, b4⟩ := hcp2
 refine rdy [10] (rw_ 10 52 2047 (goInt ((n - i : Nat) : Int)) w4 ⟨b4, pw_cell_below b4 ((blk_cell HT.out.1 0).trans rfl)⟩ (no 52 ?_) rn (hrun := copy_of (by rfl) (by rfl) (by rfl) (by rfl) hcp))
 refine done_ (by kernel_rfl) ?_
 have H5 := Aside0.mk (And.intro k4 b4)
 clear hcp hk0 hs2' k4 b4 H4
 generalize (if p = j then some (⟨G, 0, none⟩ : Addr) else some ⟨G, j * 5, none⟩) = qG
 generalize (if n = i then some (⟨F, 0, none⟩ : Addr) else some ⟨F, i * 5, none⟩) = qF
 go_upto_region 7 with fail
 refine wp_at ?_
 intro w5 hw5
 subst hw5
 have yE := pw_cell_below H5.out.2 ((blk_cell HT.out.1 4).trans (show _ = some (.int .i16 0 : Value) from rfl))
 refine sc 11 (fun w' => Below w.heap.size w w' ∧ w'.cell? ⟨T, 4, none⟩ = some (.int .i16 0)) (fun hk0 v3 hs3 hb => ?_) (hS := ⟨H5.out.2, yE⟩)
 have k6 := blk_below H5.out.1 hb
 clear yE hb
 refine pu 0 53 1 ?_
 refine pu 1 54 3 ?_
 refine pu 2 55 7 ?_
 refine pu 3 56 15 ?_
 refine pu 4 57 31 ?_
 refine pu 5 58 63 ?_
 refine pu 6 59 127 ?_
 refine ta 7 60 255 ?_
 obtain ⟨e1, e2, e3, e4, e5, e6⟩ := HT.out
 obtain ⟨hn, hi, hl, hm, hs, hsd, hd0⟩ := HH.out
 have hcl : arr.toList.length = ds.length * 5 := by simp only [Array.length_toList]; omega
 have hlen : (ds.take i ++ DF.mk nm dt b :: ds.drop i).length = p := by
  have := HP.out.1
  simp only [List.length_append, List.length_cons, List.length_take, List.length_drop]
  omega
 have bst : ∀ {ok' : Nat → Prop} {fs : List DF} {l : List Value}, DFsIn w ok' fs l → DFsIn v3 ok' fs l := fun h => DFsIn.step (fun k q cells hk hl _ hc => ⟨(hs3.1.block k hl).trans hc, hk⟩) h
 have hD : DFsIn w (fun k => ok k ∨ okd k) (ds.take i ++ DF.mk nm dt b :: ds.drop i) (arr.toList.take (i * 5) ++ ([Value.string nm, .iface q (.pointer (some a)), .bool b, .slice none 0 0, .slice none 0 0] : List Value) ++ arr.toList.drop (i * 5)) :=
  dfs_ins (DFIn.mono hd0 (fun k hk => Or.inr hk)) i ds arr.toList hcl (by omega) (DFsIn.step (fun k q cells hk _ _ hc => ⟨hc, Or.inl hk⟩) e4)
 have hRow : RowAt v3 (fun k => ok k ∨ okd k) (some ⟨G, 0, none⟩) (ds.take i ++ DF.mk nm dt b :: ds.drop i) := row_of k6 (by simpa using bst hD)
 have hT3 := blk_below e1 hs3.1
 have hcall := new47_2 grpAll (ds.take i ++ DF.mk nm dt b :: ds.drop i) (by have := HP.out.1; omega) (fun e he => by
  rcases List.mem_append.1 he with he | he
  ·exact ⟨hs e (List.mem_of_mem_take he), trivial⟩
  ·rcases List.mem_cons.1 he with rfl | he
   ·exact ⟨hsd, trivial⟩
   ·exact ⟨hs e (List.mem_of_mem_drop he), trivial⟩) (some ⟨G, 0, none⟩) p _ K V m k v T v3 hRow ((blk_cell hT3 2).trans rfl) ((blk_cell hT3 3).trans rfl)
 rw [hlen] at hcall
 have HD := Aside0.mk (And.intro hD (And.intro hlen hcl))
 clear hRow hT3 bst hD hlen hcl e1 e2 e3 e4 e5 e6 hn hi hl hm hs hsd hd0
 refine ca 8 61 511 Tryz.func47 #[.slice (some ⟨G, 0, none⟩) p p, .pointer (some ⟨T, 2, none⟩), .int .i16 0] hk0 hs3 hcall (fun e v4 hR hs4 hb4 => ?_)
 obtain ⟨T', M', rfl, hT', hk', BB, _, _, hBB⟩ := hR
 refine ⟨_, rfl, no 61 ?_⟩
 refine pu 9 6 1023 ?_
 refine pu 10 7 2047 ?_
 refine done_ (by kernel_rfl) ?_
 have HE := Aside0.mk (And.intro (blk_below k6 hb4) (And.intro hs4.1 (And.intro hk' (And.intro hT' (And.intro (hs3.1.size) hBB)))))
 clear hcall hT' hk' hBB hk0 hs3 hs4 hb4 k6
 go_wp2
 go_ret2
 obtain ⟨r1, r2, r3, r4, r5, r6⟩ := HE.out
 obtain ⟨hD, hlen, hcl⟩ := HD.out
 refine ⟨⟨T', rfl, by omega, G, _, M', K, k, V, v, (fun k => ok k ∨ okd k), ?_, r1, ?_, ?_, HT.out.2.2.2.2.1.below r2, HT.out.2.2.2.2.2.below r2, BB, hlen ▸ r6⟩, r2⟩
 ·rw [r3, hlen]
 ·rw [hlen]
  simp only [List.size_toArray, List.length_append, List.length_take, List.length_drop, hcl, List.length_cons, List.length_nil]
  have := HH.out.1
  have := HH.out.2.1
  have := HP.out.1
  omega
 ·simpa using DFsIn.step (fun k q cells hk hl _ hc => ⟨(r2.block k hl).trans hc, hk⟩) hD
end Go.Proofs.YteebgnhhjlgnjaaGreatDoor.V
