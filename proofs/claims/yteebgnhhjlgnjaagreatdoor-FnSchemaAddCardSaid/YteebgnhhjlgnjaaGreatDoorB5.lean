/- Rows that are copied; the fields of structs and of schemas; impl.codesBack and impl.fieldsBack. -/
import Derived.Test.YteebgnhhjlgnjaaGreatDoorB3
import Derived.Test.YteebgnhhjlgnjaaGreatDoorAN5
namespace Go.Proofs.YteebgnhhjlgnjaaGreatDoor.V
open Go.RowKit Go.Proofs.YteebgnhhjlgnjaaGreatDoorW.PrintWords Go.Proofs.YteebgnhhjlgnjaaGreatDoorW.PrintLast Go.Proofs.YteebgnhhjlgnjaaGreatDoorW.PrintMore
set_option maxHeartbeats 40000000
set_option maxRecDepth 100000
set_option linter.unusedVariables false
set_option linter.unusedSimpArgs false
theorem copyAt {ty e sz : Nat} (hty : Tryz.prog.underlying ty = some (.slice e)) (hsz : ∃ i0, Tryz.prog.info? e = some i0 ∧ i0.size = sz) (w : World) (g o n dCap sCap : Nat) (A : Option Addr) (cur : Array Value) (t : TypeId) (cs : List Value) (hg : w.heap[g]? = some (.cells cur t (0, 0))) (hn : cs.length = n * sz)
 (hsrc : 0 < n → ∃ a, A = some a ∧ ∀ j v, cs[j]? = some v → w.cell? (a.add j) = some v) (hfit : o + cs.length ≤ cur.size) (h1 : ∀ v ∈ cs, v.oneCell' = true) :
 (Builtin.copy_ #[ty, ty] 3 #[.slice (some ⟨g, o, none⟩) n dCap, .slice A n sCap]).run Tryz.prog w = .ok (goInt n) (w.setRow g (cur.toList.take o ++ cs ++ cur.toList.drop (o + cs.length)).toArray) := by
 obtain ⟨i0, hi, hs⟩ := hsz
 have hst := run_storeCells_at Tryz.prog g o t cs 0 cur w hg (by simpa using hfit) h1
 have hst2 : (storeCells ⟨g, o, none⟩ cs).run Tryz.prog w = .ok () (w.setRow g (cur.toList.take o ++ cs ++ cur.toList.drop (o + cs.length)).toArray) := by simpa using hst
 cases A with
 | none =>
  have h0 : n = 0 := by
   rcases Nat.eq_zero_or_pos n with h | h
   ·exact h
   ·obtain ⟨a, e, _⟩ := hsrc h
    cases e
  subst h0
  obtain rfl : cs = [] := List.eq_nil_of_length_eq_zero (by simpa using hn)
  simp [Builtin.copy_, run_underlying hty, Builtin.lenOf, Builtin.firstCells, sizeOf, typeInfo, hi, hs]
  first
   | (rw [hst2]; simp [goInt]; done)
   | (simp at hst2; rw [hst2]; simp [goInt]; done)
 | some a =>
  have hsrc' : ∀ j v, cs[j]? = some v → w.cell? (a.add j) = some v := fun j v hv => by
   have hp : 0 < n := by
    rcases Nat.eq_zero_or_pos n with h | h
    ·subst h
     obtain rfl : cs = [] := List.eq_nil_of_length_eq_zero (by simpa using hn)
     simp at hv
    ·exact h
   obtain ⟨a', e, h⟩ := hsrc hp
   cases e
   exact h j v hv
  have hl := run_loadCells_list (P := Tryz.prog) w a cs hsrc'
  rw [hn] at hl
  simp [Builtin.copy_, run_underlying hty, Builtin.lenOf, Builtin.firstCells, sizeOf, typeInfo, hi, hs, hl]
  rw [hst2]
  simp [goInt]
theorem row_cells {W : World} {ok : Nat → Prop} {A : Option Addr} {fs : List DF} (h : RowAt W ok A fs) : ∃ cs : List Value, cs.length = fs.length * 5 ∧ DFsIn W ok fs cs ∧ (∀ v ∈ cs, v.oneCell' = true) ∧ (0 < fs.length → ∃ a, A = some a ∧ ∀ j v, cs[j]? = some v → W.cell? (a.add j) = some v) := by
 rcases Nat.eq_zero_or_pos fs.length with h0 | h0
 ·obtain rfl : fs = [] := List.eq_nil_of_length_eq_zero h0
  exact ⟨[], rfl, trivial, fun v hv => by simp at hv, fun hp => absurd hp (by simp)⟩
 ·obtain ⟨a, rfl, hr⟩ := h h0
  have key : ∀ (fs' : List DF) (m : Nat), (∀ (j : Nat) (hj : j < fs'.length), ∃ cs, DFIn W ok fs'[j] cs ∧ ∀ i u, cs[i]? = some u → W.cell? (a.add ((m + j) * 5 + i)) = some u) →
   ∃ cs : List Value, cs.length = fs'.length * 5 ∧ DFsIn W ok fs' cs ∧ (∀ v ∈ cs, v.oneCell' = true) ∧ ∀ j v, cs[j]? = some v → W.cell? (a.add (m * 5 + j)) = some v := by
   intro fs'
   induction fs' with
   | nil => intro m _; exact ⟨[], rfl, trivial, fun v hv => by simp at hv, fun j v hv => by simp at hv⟩
   | cons f r ih =>
    intro m hm
    obtain ⟨c, hf, hc⟩ := hm 0 (by simp)
    obtain ⟨cs, h1, h2, h3, h4⟩ := ih (m + 1) (fun j hj => by
     obtain ⟨c', q1, q2⟩ := hm (j + 1) (by simpa using hj)
     exact ⟨c', by simpa using q1, fun i u hu => by have := q2 i u hu; rwa [show m + (j + 1) = m + 1 + j by omega] at this⟩)
    have hl := hf.len
    refine ⟨c ++ cs, by simp [h1, hl]; omega, ⟨c, cs, rfl, hf, h2⟩, fun v hv => ?_, fun j v hv => ?_⟩
    ·rcases List.mem_append.1 hv with hv | hv
     ·exact hf.one v hv
     ·exact h3 v hv
    ·rcases Nat.lt_or_ge j 5 with hj | hj
     ·rw [List.getElem?_append_left (by omega)] at hv
      have := hc j v hv
      rwa [Nat.add_zero] at this
     ·rw [List.getElem?_append_right (by omega), hl] at hv
      have := h4 (j - 5) v hv
      rwa [show (m + 1) * 5 + (j - 5) = m * 5 + j by omega] at this
  obtain ⟨cs, h1, h2, h3, h4⟩ := key fs 0 (fun j hj => by
   obtain ⟨c, q1, q2⟩ := hr j hj
   exact ⟨c, q1, fun i u hu => by rw [Nat.zero_add]; exact q2 i u hu⟩)
  exact ⟨cs, h1, h2, h3, fun _ => ⟨a, rfl, fun j v hv => by have := h4 j v hv; rwa [Nat.zero_mul, Nat.zero_add] at this⟩⟩
theorem info61s : ∃ i0, Tryz.prog.info? 61 = some i0 ∧ i0.size = 5 := by
 obtain ⟨i0, h1, _, h3, _⟩ := info_parts61
 exact ⟨i0, h1, h3⟩
theorem ints_of_R {W : World} {base : Nat} {ok : Nat → Prop} {v : Value} {l : List Int} (hl : l.length ≤ 9223372036854775807) (h : Kd.R (Kd.int .i64) 3 W base ok v l) : ∃ A c, v = .slice A l.length c ∧ RowI W base A c l := by
 have ho := Kd.own_of_R h
 rcases ho.2 with ⟨rfl, h1⟩ | ⟨g, cap, cur, rfl, hb, hg, hn, hm, hs, ht⟩
 ·exact ⟨none, 0, by rw [h1], by omega, hl, fun hp => absurd hp (by omega)⟩
 ·have key : ∀ (j : Nat) (x : Int), l[j]? = some x → cur[j]? = some (Value.int .i64 x) := fun j x hx => by
   have hj := (List.getElem?_eq_some_iff.1 hx).1
   have e := congrArg (fun z => z[j]?) ht
   simp only [Nat.mul_one, List.getElem?_take, hj, if_true, Array.getElem?_toList] at e
   rw [e, encs, List.getElem?_map, hx]
   rfl
  exact ⟨_, cap, rfl, hn, hl, fun _ => ⟨g, cur, rfl, hb, hg, key⟩⟩
theorem fl_116 (g c : Nat) (A : Option Addr) (fs : List DF) (ok : Nat → Prop) (w : World) (hl : fs.length ≤ 2000) (h : w.cell? ⟨g, 0, none⟩ = some (.slice A fs.length c)) (hF : RowAt w ok A fs) : FieldsC 116 (.pointer (some ⟨g, 0, none⟩)) w fs := by
 intro w0 hb0
 have hF0 := hF.below hb0
 have h0 := pw_cell_below hb0 h
 clear hF h hb0
 obtain ⟨cs, h1, h2, h3, h4⟩ := row_cells hF0
 obtain ⟨n, hn⟩ : ∃ n, n = fs.length := ⟨_, rfl⟩
 rw [← hn] at h0 h1 h4 ⊢
 have hmk := make61 n (by omega) w0
 have HC := Aside0.mk (And.intro h1 (And.intro h2 (And.intro h3 (And.intro h4 hn))))
 clear h1 h2 h3 h4 hn hF0 hl
 go_enter Tryz.func116, Tryz.ntmps116
 go_upto_region 2 with fail
 clear hmk
 refine wp_at ?_
 intro w1 hw1
 have hb1 : Below w0.heap.size w0 w1 := by rw [hw1]; exact (Below.refl _ _).alloc (Nat.le_refl _) _
 have hk1 : w1.heap[w0.heap.size]? = some (.cells (madeCells #[.string ⟨#[]⟩, .nilIface, .bool false, .slice none 0 0, .slice none 0 0] (n * 5)) 61 (0, 0)) := by rw [hw1]; exact blk_new _ _
 clear hw1
 obtain ⟨q1, q2, q3, q4, q5⟩ := HC.out
 have hcp := copyAt Tryz.underlying79 info61s w1 w0.heap.size 0 n n c A _ 61 cs hk1 q1 (fun hp => by obtain ⟨a, e, hh⟩ := q4 hp; exact ⟨a, e, fun j v hv => pw_cell_below hb1 (hh j v hv)⟩) (by rw [size_madeCells]; omega) q3
 replace h0 := pw_cell_below hb1 h0
 have hnil : (madeCells #[.string ⟨#[]⟩, .nilIface, .bool false, .slice none 0 0, .slice none 0 0] (n * 5)).toList.drop (0 + cs.length) = [] := List.drop_eq_nil_of_le (by rw [Array.length_toList, size_madeCells]; omega)
 rw [hnil, List.append_nil, List.take_zero, List.nil_append] at hcp
 have HB := Aside0.mk (And.intro hb1 hk1)
 clear hnil hk1 hb1 q1 q2 q3 q4 q5
 go_wp2
 go_ret
 have hr := setRow_heap w1 w0.heap.size _ cs.toArray 61 (0, 0) HB.out.2
 have hB := below_setRow HB.out.1 (Nat.le_refl _) cs.toArray
 refine ⟨⟨_, _, ok, rfl, row_of hr ?_⟩, hB⟩
 simpa using DFsIn.step (fun k q cells hk hl _ hc => ⟨(hB.block k hl).trans hc, hk⟩) HC.out.2.1
theorem fl_49 (g c : Nat) (A : Option Addr) (fs : List DF) (ok : Nat → Prop) (w : World) (hl : fs.length ≤ 2000) (h : w.cell? ⟨g, 0, none⟩ = some (.slice A fs.length c)) (hF : RowAt w ok A fs) : FieldsC 49 (.pointer (some ⟨g, 0, none⟩)) w fs := by
 intro w0 hb0
 have hF0 := hF.below hb0
 have h0 := pw_cell_below hb0 h
 clear hF h hb0
 obtain ⟨cs, h1, h2, h3, h4⟩ := row_cells hF0
 obtain ⟨n, hn⟩ : ∃ n, n = fs.length := ⟨_, rfl⟩
 rw [← hn] at h0 h1 h4 ⊢
 have hmk := make61 n (by omega) w0
 have HC := Aside0.mk (And.intro h1 (And.intro h2 (And.intro h3 (And.intro h4 hn))))
 clear h1 h2 h3 h4 hn hF0 hl
 go_enter Tryz.func49, Tryz.ntmps49
 go_upto_region 2 with fail
 clear hmk
 refine wp_at ?_
 intro w1 hw1
 have hb1 : Below w0.heap.size w0 w1 := by rw [hw1]; exact (Below.refl _ _).alloc (Nat.le_refl _) _
 have hk1 : w1.heap[w0.heap.size]? = some (.cells (madeCells #[.string ⟨#[]⟩, .nilIface, .bool false, .slice none 0 0, .slice none 0 0] (n * 5)) 61 (0, 0)) := by rw [hw1]; exact blk_new _ _
 clear hw1
 obtain ⟨q1, q2, q3, q4, q5⟩ := HC.out
 have hcp := copyAt Tryz.underlying79 info61s w1 w0.heap.size 0 n n c A _ 61 cs hk1 q1 (fun hp => by obtain ⟨a, e, hh⟩ := q4 hp; exact ⟨a, e, fun j v hv => pw_cell_below hb1 (hh j v hv)⟩) (by rw [size_madeCells]; omega) q3
 replace h0 := pw_cell_below hb1 h0
 have hnil : (madeCells #[.string ⟨#[]⟩, .nilIface, .bool false, .slice none 0 0, .slice none 0 0] (n * 5)).toList.drop (0 + cs.length) = [] := List.drop_eq_nil_of_le (by rw [Array.length_toList, size_madeCells]; omega)
 rw [hnil, List.append_nil, List.take_zero, List.nil_append] at hcp
 have HB := Aside0.mk (And.intro hb1 hk1)
 clear hnil hk1 hb1 q1 q2 q3 q4 q5
 go_wp2
 go_ret
 have hr := setRow_heap w1 w0.heap.size _ cs.toArray 61 (0, 0) HB.out.2
 have hB := below_setRow HB.out.1 (Nat.le_refl _) cs.toArray
 refine ⟨⟨_, _, ok, rfl, row_of hr ?_⟩, hB⟩
 simpa using DFsIn.step (fun k q cells hk hl _ hc => ⟨(hB.block k hl).trans hc, hk⟩) HC.out.2.1
theorem codes117 (ids : List Int) (B : Option Addr) (m : Nat) (hl : ids.length ≤ 100) (hr : ∀ x ∈ ids, 0 ≤ x ∧ x ≤ 126) (w : World) (hB : 0 < ids.length → ∃ ad, B = some ad ∧ ∀ (j : Nat) (hj : j < ids.length), w.cell? (ad.add j) = some (.int .i8 ids[j])) :
 Calls Tryz.prog 117 #[.slice B ids.length m] w fun e w' => (∃ A3 c3, e = .returned (.slice A3 ids.length c3) ∧ RowI w' w.heap.size A3 c3 ids) ∧ Below w.heap.size w w' := by
 have HH := Aside0.mk (And.intro hB (And.intro hr hl))
 clear hB hr hl
 go_enter Tryz.func117, Tryz.ntmps117
 go_wp2
 go_loopg [3, 8] ids.length (fun kq v3 v8 wr => ∃ i : Nat, v8 = .int .i64 (i : Int) ∧ Aside0 (i + kq = ids.length ∧ Below w.heap.size w wr ∧ Kd.R (Kd.int .i64) 3 wr w.heap.size (fun _ => True) v3 (ids.take i)))
 case atStart => exact ⟨0, rfl, ⟨⟨by omega, Below.refl _ _, Kd.R_nil _ _ _ _ _⟩⟩⟩
 case round =>
  obtain ⟨i, rfl, hA⟩ := hrel
  by_cases hi : i < ids.length
  ·have hd : decide ((i : Int) < (ids.length : Int)) = true := by simpa using hi
   obtain ⟨h1, h2, h3⟩ := hA.out
   obtain ⟨ad, rfl, hc⟩ := HH.out.1 (by omega)
   have x0 : wr.cell? (ad.add i) = some (.int .i8 ids[i]) := pw_cell_below h2 (hc i hi)
   have hx := HH.out.2.1 _ (List.getElem_mem hi)
   generalize hxx : ids[i] = x at x0 hx
   have e0 : wrap64 x = x := i32_64 x (by omega) (by omega)
   have hm4 : (i : Int) ≤ 100 := by have := HH.out.2.2; omega
   have htk : ids.take (i + 1) = ids.take i ++ [x] := by rw [List.take_succ_eq_append_getElem hi, hxx]
   have hlt : (ids.take i).length ≤ i := List.length_take_le _ _
   have HT := Aside0.mk (And.intro htk hlt)
   have e1 : wrap64 ((i : Int) + 1) = ((i + 1 : Nat) : Int) := by rw [w64_id _ (by omega) (by omega)]; omega
   have E1 := Aside0.mk e1
   clear e1 h1 h2 h3 hc hx hxx htk hlt
   go_wp2_with ((with_reducible refine gate_builtin (b := .append) (xs := #[.tmp 12, .tmp 15]) rfl ?_); at_builtin; refine Kd.R_append (Kd.int .i64) (w0 := w) w.heap.size rfl (.tmp 12) (.tmp 15) 26 3 _ 8 rfl Tryz.underlying26 info3 rfl (by decide) (by decide) u3 (ids.take i) x [.int .i64 x] (fun _ => True) (fun _ => False) rfl rfl ?aP ?aK ?aF ?aO ?aB ?aS ?aL ?_; (case aP => exact rfl); (case aK => exact fun k hk => hk.elim); (case aF => exact fun _ _ => trivial); (case aO => exact hA.out.2.2); (case aB => exact hA.out.2.1); (case aS => exact hA.out.2.1.size); (case aL => have := HT.out.2; omega); intro v1 w2 hr2 hb2 hg2 hat2; have HG := Aside0.mk (And.intro hr2 hb2); clear hr2 hb2 hg2 hat2)
   have h1 := hA.out.1
   go_roundg (ids.length - (i + 1))
   case measure => omega
   case rel =>
    refine ⟨i + 1, by first | go_num | (rw [E1.out]), ⟨⟨by omega, HG.out.2, ?_⟩⟩⟩
    rw [HT.out.1]
    exact HG.out.1
  ·have hd : decide ((i : Int) < (ids.length : Int)) = false := by simpa using hi
   go_wp2
   go_ret
   obtain ⟨h1, h2, h3⟩ := hA.out
   rw [List.take_of_length_le (by omega)] at h3
   obtain ⟨A, c, rfl, hR⟩ := ints_of_R (by have := HH.out.2.2; omega) h3
   exact ⟨⟨A, c, rfl, hR⟩, h2⟩
theorem keys80 (K : Option Addr) (n c : Nat) (V : Option Addr) (m d : Nat) (w : World) : Calls Tryz.prog 80 #[.agg #[.slice K n c, .slice V m d]] w fun e w' => e = .returned (.slice K n c) ∧ Below w.heap.size w w' := by
 go_enter Tryz.func80, Tryz.ntmps80
 go_wp2
 go_ret
 exact ⟨rfl, bl⟩
theorem values81 (K : Option Addr) (n c : Nat) (V : Option Addr) (m d : Nat) (w : World) : Calls Tryz.prog 81 #[.agg #[.slice K n c, .slice V m d]] w fun e w' => e = .returned (.slice V m d) ∧ Below w.heap.size w w' := by
 go_enter Tryz.func81, Tryz.ntmps81
 go_wp2
 go_ret
 exact ⟨rfl, bl⟩
theorem meta50z (w : World) : Calls Tryz.prog 50 #[.agg #[.slice none 0 0, .slice none 0 0]] w fun e w' => e = .returned (.slice none 0 0) ∧ Below w.heap.size w w' := by
 go_enter Tryz.func50, Tryz.ntmps50
 go_wp2_with (go_at_call 80; fail)
 refine calls_at ?_
 intro w1 hw1
 have b1 : Below w.heap.size w w1 := by rw [hw1]; repeat (first | exact Below.refl _ _ | apply b1_ | apply b2_ | apply b3_)
 clear hw1
 refine (keys80 none 0 0 none 0 0 w1).mono ?_
 rintro e w2 ⟨rfl, hb⟩
 have HB := Aside0.mk (below_step b1 hb)
 clear b1 hb
 go_wp2
 refine wp_loop_rounds 1 ?_
 rw [rounds_succ]
 go_wp2
 go_ret
 exact ⟨rfl, HB.out⟩
section
variable {P : Program} {md : Region.Mode} {ops : Array Oper} {Q : Exit → Act → World → Prop} {S : World → Prop} {ds : List Nat} {n m fuel : Nat} {oi : Oper} {a a' : Act} {l : Array Bool}
theorem rap {α : Type} (d : Kd α) {w0 W : World} (base i N M : Nat) {rs : List Nat} (s x : Operand) (t e : TypeId) (z : Value) (bytes : Nat) (v : Value) (xs : List α) (p : α) (cs : List Value) (ok okp : Nat → Prop)
 (hp : d.M W base okp p cs) (hokp : ∀ k, okp k → ok k ∧ some k ≠ v.ownBlock) (hfresh : ∀ k, W.heap.size ≤ k → ok k) (HO : d.R e W base ok v xs) (HB : Below base w0 W) (hbase : base ≤ W.heap.size) (hlen : (xs.length + 1) * bytes ≤ 140737488355328)
 (h : ∀ v1 w1, d.R e w1 base ok v1 (xs ++ [p]) → Below base w0 w1 → W.grownBy w1 v.ownBlock → S w1 ∧ wpAnyLast P md ops Q S ds fuel (ba n M) (a.put (some N) v1) w1)
 (hr : AllReadyL P md ops Q S ds fuel (ba n m) a (W.alloc (.cells cs.toArray e)) rs)
 (ht : P.underlying t = some (.slice e)) (hinfo : (P.info? e).map (fun i => (i.zero, i.size, i.bytes)) = some (some z, d.sz, bytes)) (hz : z.cells.size = d.sz) (hs0 : 0 < d.sz) (hb0 : 0 < bytes)
 (hi : ops[i]? = some oi := by exact rfl) (ho : oi.op = .call { callee := .builtin .append, args := #[s, x], argTypes := #[t, t] } := by exact rfl) (hs : a.eval s = v := by rfl) (hx : a.eval x = .slice (some ⟨W.heap.size, 0, none⟩) 1 1 := by rfl)
 (hN : oi.dst = some N := by exact rfl) (hl : (ba n m).setIfInBounds i true = ba n M := by kernel_rfl) (hd : i ∉ ds := by decide) (hw : Region.wanted oi (yielded ops a.tmps) = true := by rfl) :
 AllReadyL P md ops Q S ds fuel (ba n m) a (W.alloc (.cells cs.toArray e)) (i :: rs) := by
 refine AllReadyL.cons hi hd (fun K hK => ?_) hr
 rw [hl] at hK
 refine Kd.R_append_step d base hw s x t e z bytes ho ht hinfo hz hs0 hb0 v xs p cs ok okp hs hx hp hokp hfresh HO HB hbase hlen (fun v1 w1 h1 h2 h3 _ => ?_)
 rw [hN]
 exact hK.out _ _ (h v1 w1 h1 h2 h3).1 (fun _ => (h v1 w1 h1 h2 h3).2)
end
def BkF (f : S30) (d : DF) : Prop := ∃ n b T t, f = ⟨n, b, T, []⟩ ∧ d = .mk n t b ∧ BkT T t
def z30v : Value := .agg #[.string ⟨#[]⟩, .bool false, .int .i64 0, .int .i64 0, .bool false, .int .i64 0, .int .i64 0, .int .i64 0, .string ⟨#[]⟩, .bool false, .slice none 0 0, .slice none 0 0, .slice none 0 0]
theorem info30 : (Tryz.prog.info? 30).map (fun i => (i.zero, i.size, i.bytes)) = some (some z30v, 13, 168) := by kernel_rfl
theorem bfs_of_row {W : World} {ok : Nat → Prop} : ∀ (fs : List S30) (l : List Value), fs.length * 13 ≤ l.length → (∀ (j : Nat) (hj : j < fs.length), BFIn W ok fs[j] ((l.drop (j * 13)).take 13)) → BFsIn W ok fs l
 | [], l, _, _ => trivial
 | d :: r, l, hl, h => by
  simp only [List.length_cons] at hl
  refine ⟨l.take 13, l.drop 13, (List.take_append_drop 13 l).symm, ?_, bfs_of_row r (l.drop 13) (by rw [List.length_drop]; omega) (fun j hj => ?_)⟩
  ·have := h 0 (by simp)
   simpa using this
  ·have := h (j + 1) (by simp; omega)
   rw [List.drop_drop]
   rw [show 13 + j * 13 = (j + 1) * 13 by omega]
   simpa using this
theorem rowB_of_R {W : World} {base : Nat} {ok : Nat → Prop} {v : Value} {fs : List S30} (hl : fs.length ≤ 9223372036854775807) (h : Kd.R kBF 30 W base ok v fs) : ∃ A c, v = .slice A fs.length c ∧ RowB W base A c fs := by
 obtain ⟨h0, inner, ho, hr⟩ := h
 rcases ho.2 with ⟨rfl, h1⟩ | ⟨g, cap, cur, rfl, hb, hg, hn, hm, hs, ht⟩
 ·exact ⟨none, 0, by rw [h1], by omega, hl, fun hp => absurd hp (by omega)⟩
 ·have hz : kBF.sz = 13 := rfl
  rw [hz] at hs ht
  have hcl : cur.toList.length = cap * 13 := by simpa using hs
  refine ⟨_, cap, rfl, hn, hl, fun hp => ⟨g, cur, rfl, hb, hg, bfs_of_row fs _ (hcl ▸ Nat.mul_le_mul_right _ hn) (fun j hj => ?_)⟩⟩
  have h2 : BFIn W _ fs[j] ((inner.drop (j * 13)).take 13) := hr.2 j fs[j] (List.getElem?_eq_getElem hj)
  have e : (inner.drop (j * 13)).take 13 = (cur.toList.drop (j * 13)).take 13 := by
   rw [← ht]
   rw [List.drop_take, List.take_take, Nat.min_eq_left (by omega)]
  rw [e] at h2
  exact BFIn.step (fun k q cells hk _ _ hc => ⟨hc, hk.2⟩) h2
theorem backs48 (fs : List S30) (ds : List DF) (h : All2 BkF fs ds) (hl : fs.length ≤ 2000) : Backs fs ds := by
 intro w A c ok hR
 have hlen := h.length
 have HH := Aside0.mk (And.intro h (And.intro hR (And.intro hlen hl)))
 clear h hR hl
 go_enter Tryz.func48, Tryz.ntmps48
 go_wp2
 go_loopg [3, 8] ds.length (fun kq v3 v8 wr => ∃ i : Nat, v8 = .int .i64 (i : Int) ∧ Aside0 (i + kq = ds.length ∧ Below w.heap.size w wr ∧ Kd.R kBF 30 wr w.heap.size (fun _ => True) v3 (fs.take i)))
 case atStart => exact ⟨0, rfl, ⟨⟨by omega, Below.refl _ _, Kd.R_nil _ _ _ _ _⟩⟩⟩
 case round =>
  obtain ⟨i, rfl, hA⟩ := hrel
  by_cases hi : i < ds.length
  ·have hd : decide ((i : Int) < (ds.length : Int)) = true := by simpa using hi
   obtain ⟨h, hR, hlen, hl⟩ := HH.out
   obtain ⟨a1, a2, a3⟩ := hA.out
   obtain ⟨ad, rfl, hrow⟩ := hR.below a2 (by omega)
   obtain ⟨cs, hf, hcell⟩ := hrow i hi
   obtain ⟨n, b, T, t, e1f, e2, hbk⟩ := h.get i (hlen ▸ hi) hi
   rw [e2] at hf
   obtain ⟨x, rfl, hx⟩ := hf
   obtain ⟨tq, tz, rfl⟩ := hx.form
   have htk : fs.take (i + 1) = fs.take i ++ [⟨n, b, T, []⟩] := by
    rw [List.take_succ_eq_append_getElem (hlen ▸ hi), e1f]
   have hlt : (fs.take i).length ≤ i := List.length_take_le _ _
   have x0 : wr.cell? (ad.add (i * 5)) = some (.string n) := hcell 0 _ rfl
   have x1 : wr.cell? ⟨(ad.add (i * 5)).block, (ad.add (i * 5)).off + 1, none⟩ = some (.iface tq (.pointer (some tz))) := by rw [← add_field _ _ 1 (by omega)]; exact hcell 1 _ rfl
   have x2 : wr.cell? ⟨(ad.add (i * 5)).block, (ad.add (i * 5)).off + 2, none⟩ = some (.bool b) := by rw [← add_field _ _ 2 (by omega)]; exact hcell 2 _ rfl
   have x3 : wr.cell? ⟨(ad.add (i * 5)).block, (ad.add (i * 5)).off + 3, none⟩ = some (.slice none 0 0) := by rw [← add_field _ _ 3 (by omega)]; exact hcell 3 _ rfl
   have x4 : wr.cell? ⟨(ad.add (i * 5)).block, (ad.add (i * 5)).off + 4, none⟩ = some (.slice none 0 0) := by rw [← add_field _ _ 4 (by omega)]; exact hcell 4 _ rfl
   have e1 : wrap64 ((i : Int) + 1) = ((i + 1 : Nat) : Int) := by rw [w64_id _ (by omega) (by omega)]; omega
   have E1 := Aside0.mk e1
   have HK := Aside0.mk (And.intro hx (And.intro hbk (And.intro htk hlt)))
   clear e1f e2 e1 h hR hlen hl a1 a2 a3 hrow hcell hx hbk htk hlt
   go_upto_region 5 with fail
   refine wp_at ?_
   intro w1 hw1
   have b1 : Below wr.heap.size wr w1 := by rw [hw1]; repeat (first | exact Below.refl _ _ | apply b1_ | apply b2_ | apply b3_)
   have kF : w1.heap[wr.heap.size]? = some (.cells #[.string n, .iface tq (.pointer (some tz)), .bool b, .slice none 0 0, .slice none 0 0] 61 (0, 0)) := by rw [hw1]; exact blk_new_at rfl
   clear hw1 x0 x1 x2 x3 x4
   obtain ⟨y0, y1, y2, y3, y4⟩ := (show w1.cell? ⟨wr.heap.size, 0, none⟩ = some (.string n) ∧ w1.cell? ⟨wr.heap.size, 1, none⟩ = some (.iface tq (.pointer (some tz))) ∧ w1.cell? ⟨wr.heap.size, 2, none⟩ = some (.bool b) ∧ w1.cell? ⟨wr.heap.size, 3, none⟩ = some (.slice none 0 0) ∧ w1.cell? ⟨wr.heap.size, 4, none⟩ = some (.slice none 0 0) from ⟨(blk_cell kF 0).trans rfl, (blk_cell kF 1).trans rfl, (blk_cell kF 2).trans rfl, (blk_cell kF 3).trans rfl, (blk_cell kF 4).trans rfl⟩)
   have HB := Aside0.mk (And.intro b1 kF)
   have bw := below_step hA.out.2.1 b1
   refine sc 15 (fun w' => Below w.heap.size w w' ∧ w'.cell? ⟨wr.heap.size, 0, none⟩ = some (.string n) ∧ w'.cell? ⟨wr.heap.size, 1, none⟩ = some (.iface tq (.pointer (some tz))) ∧ w'.cell? ⟨wr.heap.size, 2, none⟩ = some (.bool b) ∧ w'.cell? ⟨wr.heap.size, 3, none⟩ = some (.slice none 0 0) ∧ w'.cell? ⟨wr.heap.size, 4, none⟩ = some (.slice none 0 0)) (fun hk0 w2 hs2 hb => ?_)
   have kF2 := blk_below HB.out.2 hb
   have d2 := below_step HB.out.1 hb
   clear b1 kF y0 y1 y2 y3 y4 hb bw
   refine pu 0 12 1 ?_
   refine pu 1 13 3 ?_
   refine ta 2 14 7 ?_
   refine pu 3 15 15 ?_
   refine ta 4 16 31 ?_
   refine pu 5 17 63 ?_
   refine ta 6 18 127 ?_
   refine pu 8 20 383 ?_
   refine ta 9 21 895 ?_
   refine ca 7 19 1023 Tryz.func79 #[.iface tq (.pointer (some tz))] hk0 hs2 (HK.out.2.1 w2 ok _ (HK.out.1.below d2)) (fun e w3 hR hs3 hb3 => ?_)
   obtain ⟨cs, rfl, hT⟩ := hR
   have hT0 := hT.below (Below.refl _ _)
   obtain ⟨t0, t1, t2, t3, t4, t5, t6, t7, t8, t9⟩ := T
   obtain ⟨At, Ct, Bt, Dt, rfl, _⟩ := hT
   refine ⟨_, rfl, no 19 ?_⟩
   have kF3 := blk_below kF2 hb3
   have d3 := below_step d2 hb3
   refine ca 10 22 2047 Tryz.func50 #[.agg #[.slice none 0 0, .slice none 0 0]] hk0 hs3 (meta50z w3) (fun e w4 hR hs4 hb4 => ?_)
   subst hR
   refine ⟨_, rfl, no 22 ?_⟩
   have kF4 := blk_below kF3 hb4
   have hT4 := hT0.below hb4
   have hs4' := below_step d3 hb4
   have HX := Aside0.mk (And.intro hT4 (And.intro kF4 (And.intro d2.size (And.intro hs4'.size hs4.1))))
   have hRR : Kd.R kBF 30 w4 w.heap.size (fun _ => True) u3 (fs.take i) := Kd.R_below hA.out.2.2 hs4'
   have HRR := Aside0.mk hRR
   have HS4 := Aside0.mk hs4
   clear hT0 hT4 kF2 kF3 kF4 hb3 hb4 hs2 hs3 hRR hs4' d2 d3
   refine pu 11 23 4095 ?_
   refine rdy [12] (ra (v := .slice (some ⟨w4.heap.size, 0, none⟩) 1 1) 12 24 8191 (.cells #[.string n, .bool b, .int .i64 t0, .int .i64 t1, .bool t2, .int .i64 t3, .int .i64 t4, .int .i64 t5, .string t6, .bool t7, .slice At t8.length Ct, .slice Bt t9.length Dt, .slice none 0 0] 30 (0, 0)) hk0 hs4 (fun hs5 _ => no 24 ?_) rn)
   have hM : kBF.M w4 w.heap.size (fun k => w2.heap.size ≤ k) ⟨n, b, ⟨t0, t1, t2, t3, t4, t5, t6, t7, t8, t9⟩, []⟩ [.string n, .bool b, .int .i64 t0, .int .i64 t1, .bool t2, .int .i64 t3, .int .i64 t4, .int .i64 t5, .string t6, .bool t7, .slice At t8.length Ct, .slice Bt t9.length Dt, .slice none 0 0] := ⟨rfl, _, rfl, BTIn.step (fun k q cells hk _ _ hc => ⟨hc, hk, by have := HX.out.2.2.1; have := hA.out.2.1.size; omega⟩) HX.out.1⟩
   refine rdy [13] (rap kBF (w0 := w) (W := w4) w.heap.size 13 25 16383 (.tmp 12) (.tmp 24) 22 30 z30v 168 u3 (fs.take i) ⟨n, b, ⟨t0, t1, t2, t3, t4, t5, t6, t7, t8, t9⟩, []⟩ [.string n, .bool b, .int .i64 t0, .int .i64 t1, .bool t2, .int .i64 t3, .int .i64 t4, .int .i64 t5, .string t6, .bool t7, .slice At t8.length Ct, .slice Bt t9.length Dt, .slice none 0 0] (fun _ => True) (fun k => w2.heap.size ≤ k) hM (fun k hk => ⟨trivial, fun he => ?_⟩) (fun _ _ => trivial) HRR.out HX.out.2.2.2.2 (by have := HX.out.2.2.2.2.size; exact this) (by have := HK.out.2.2.2; have := HH.out.2.2; omega) (fun v1 w5 hr5 hb5 hg5 => ⟨?_, no 25 ?_⟩) rn Tryz.underlying22 info30 rfl (by decide) (by decide))
   ·obtain ⟨inner, ho⟩ := Kd.R_own hA.out.2.2
    have := own_lt ho k he.symm
    have := HX.out.2.2.1
    omega
   ·have hne : some wr.heap.size ≠ u3.ownBlock := fun he => by
     obtain ⟨inner, ho⟩ := Kd.R_own hA.out.2.2
     have := own_lt ho _ he.symm
     omega
    have hF5 : w5.heap[wr.heap.size]? = some (.cells #[.string n, .iface tq (.pointer (some tz)), .bool b, .slice none 0 0, .slice none 0 0] 61 (0, 0)) := (hg5.block _ (blk_lt HX.out.2.1) (fun e => hne e)).trans HX.out.2.1
    exact ⟨hb5, (blk_cell hF5 0).trans rfl, (blk_cell hF5 1).trans rfl, (blk_cell hF5 2).trans rfl, (blk_cell hF5 3).trans rfl, (blk_cell hF5 4).trans rfl⟩
   ·refine pu 14 3 32767 ?_
    refine done_ (by kernel_rfl) ?_
    have HG := Aside0.mk (And.intro hr5 hb5)
    clear hr5 hb5 hg5 hk0 hs4 hs5 hM
    go_wp2
    have h1 := hA.out.1
    go_roundg (ds.length - (i + 1))
    case measure => omega
    case rel =>
     refine ⟨i + 1, by first | go_num | (rw [E1.out]), ⟨⟨by omega, HG.out.2, ?_⟩⟩⟩
     rw [HK.out.2.2.1]
     exact HG.out.1
  ·have hd : decide ((i : Int) < (ds.length : Int)) = false := by simpa using hi
   go_wp2
   go_ret
   obtain ⟨h1, h2, h3⟩ := hA.out
   rw [List.take_of_length_le (by have := HH.out.2.2.1; omega)] at h3
   obtain ⟨A', c', rfl, hR⟩ := rowB_of_R (by have := HH.out.2.2.2; omega) h3
   exact ⟨⟨A', c', rfl, hR⟩, h2⟩
end Go.Proofs.YteebgnhhjlgnjaaGreatDoor.V
