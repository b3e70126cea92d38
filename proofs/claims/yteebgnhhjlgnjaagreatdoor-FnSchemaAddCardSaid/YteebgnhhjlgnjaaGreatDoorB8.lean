/- arrow.NewMetadata, its copy, impl.arrowMeta and impl.metaBack of any pairs. -/
import Derived.Test.YteebgnhhjlgnjaaGreatDoorB7
namespace Go.Proofs.YteebgnhhjlgnjaaGreatDoor.V
open Go.RowKit Go.Proofs.YteebgnhhjlgnjaaGreatDoorW.PrintWords Go.Proofs.YteebgnhhjlgnjaaGreatDoorW.PrintLast Go.Proofs.YteebgnhhjlgnjaaGreatDoorW.PrintMore
set_option maxHeartbeats 40000000
set_option maxRecDepth 100000
set_option linter.unusedVariables false
set_option linter.unusedSimpArgs false
def StrAt (W : World) (A : Option Addr) (n : Nat) : Prop := ∃ ss : List ByteArray, ss.length = n ∧ (0 < n → ∃ b, ∃ cur : Array Value, A = some ⟨b, 0, none⟩ ∧ W.heap[b]? = some (.cells cur 9 (0, 0)) ∧ ∀ (j : Nat) (s : ByteArray), ss[j]? = some s → cur[j]? = some (.string s))
theorem StrAt.move {W W' : World} {A : Option Addr} {n : Nat} (h : StrAt W A n) (hm : ∀ (b : Nat) (cs : Array Value), W.heap[b]? = some (.cells cs 9 (0, 0)) → W'.heap[b]? = some (.cells cs 9 (0, 0))) : StrAt W' A n := by
 obtain ⟨ss, h1, h2⟩ := h
 refine ⟨ss, h1, fun hn => ?_⟩
 obtain ⟨b, cur, e, hb, h3⟩ := h2 hn
 exact ⟨b, cur, e, hm b _ hb, h3⟩
theorem StrAt.below {W W' : World} {A : Option Addr} {n : Nat} (h : StrAt W A n) (hb : Below W.heap.size W W') : StrAt W' A n := h.move (fun _ _ hc => blk_below hc hb)
theorem info_parts9 : ∃ i0, Tryz.prog.info? 9 = some i0 ∧ i0.zero = some (.string ⟨#[]⟩) ∧ i0.size = 1 ∧ i0.bytes = 16 := by
 have h : (Tryz.prog.info? 9).map (fun i => (i.zero, i.size, i.bytes)) = some (some (.string ⟨#[]⟩), 1, 16) := by kernel_rfl
 cases h0 : Tryz.prog.info? 9 with
 | none => rw [h0] at h; simp at h
 | some i0 =>
  rw [h0] at h
  simp only [Option.map_some, Option.some.injEq, Prod.mk.injEq] at h
  exact ⟨i0, rfl, h⟩
theorem info9s : ∃ i0, Tryz.prog.info? 9 = some i0 ∧ i0.size = 1 := by
 obtain ⟨i0, h1, _, h3, _⟩ := info_parts9
 exact ⟨i0, h1, h3⟩
theorem make57 (n : Nat) (hn : n < 2 ^ 40) (W : World) : (Instr.makeSlice 57 (.int .i64 (n : Int)) (.int .i64 (n : Int))).run Tryz.prog W = .ok (.slice (some ⟨W.heap.size, 0, none⟩) n n) (W.alloc (.cells (madeCells #[.string ⟨#[]⟩] n) 9)) := by
 obtain ⟨i0, hi, hz, hs, hb⟩ := info_parts9
 have h := run_make W 57 9 i0 _ Tryz.underlying57 hi hz .i64 .i64 (n : Int) (n : Int) (by omega) (by omega) (by rw [hb]; omega) (by omega)
 rw [hs] at h
 have hc : (Value.string ⟨#[]⟩).cells = #[.string ⟨#[]⟩] := rfl
 rw [Nat.mul_one, hc] at h
 exact h
theorem str_cells {W : World} {A : Option Addr} {n : Nat} (h : StrAt W A n) : ∃ ss : List ByteArray, ss.length = n ∧ (ss.map Value.string).length = n * 1 ∧ (∀ v ∈ ss.map Value.string, v.oneCell' = true) ∧ (0 < n → ∃ a, A = some a ∧ ∀ j v, (ss.map Value.string)[j]? = some v → W.cell? (a.add j) = some v) := by
 obtain ⟨ss, h1, h2⟩ := h
 refine ⟨ss, h1, by simp [h1], fun v hv => ?_, fun hn => ?_⟩
 ·obtain ⟨s, _, rfl⟩ := List.mem_map.1 hv
  rfl
 ·obtain ⟨b, cur, e, hb, h3⟩ := h2 hn
  refine ⟨_, e, fun j v hv => ?_⟩
  rw [List.getElem?_map] at hv
  obtain ⟨s, hs, rfl⟩ := Option.map_eq_some_iff.1 hv
  rw [add0_, blk_cell hb]
  exact h3 j s hs
theorem str_at {W : World} {F : Nat} {ss : List ByteArray} {n : Nat} (hn : ss.length = n) (h : W.heap[F]? = some (.cells (ss.map Value.string).toArray 9 (0, 0))) : StrAt W (some ⟨F, 0, none⟩) n := ⟨ss, hn, fun _ => ⟨F, _, rfl, h, fun j s hj => by
 rw [List.getElem?_toArray, List.getElem?_map, hj]
 rfl⟩⟩
theorem new77 (n : Nat) (A B : Option Addr) (c d : Nat) (hn : n ≤ 1000) (w : World) (hA : StrAt w A n) (hB : StrAt w B n) :
 Calls Tryz.prog 77 #[.slice A n c, .slice B n d] w fun e w' => (∃ K k V v, e = .returned (.agg #[.slice K n k, .slice V n v]) ∧ StrAt w' K n ∧ StrAt w' V n) ∧ Below w.heap.size w w' := by
 by_cases h0 : n = 0
 ·subst h0
  go_enter Tryz.func77, Tryz.ntmps77
  go_wp2
  refine bodyPost_ret (v := .agg #[.slice none 0 0, .slice none 0 0]) (by simp [results, Tryz.results77, go_sem]) rfl ⟨⟨none, 0, none, 0, rfl, ⟨[], rfl, fun h => absurd h (by simp)⟩, ⟨[], rfl, fun h => absurd h (by simp)⟩⟩, ?_⟩
  repeat (first | exact Below.refl _ _ | apply b1_ | apply b2_ | apply b3_)
 have hmk := make57 n (by omega)
 have q0 : ((n : Int) == 0) = false := beq_eq_false_iff_ne.2 (by omega)
 have q1 : (n = 0) = False := eq_false h0
 have HH := Aside0.mk (And.intro hA (And.intro hB (And.intro hn h0)))
 clear hA hB hn h0
 go_enter Tryz.func77, Tryz.ntmps77
 go_upto_region 6 with fail
 go_cut [6] (fun v6 wc => ∃ T K V, v6 = .pointer (some ⟨T, 0, none⟩) ∧ Aside0 (wc.heap[T]? = some (.cells #[.slice (some ⟨K, 0, none⟩) n n, .slice (some ⟨V, 0, none⟩) n n] 59 (0, 0)) ∧ wc.heap[K]? = some (.cells (madeCells #[.string ⟨#[]⟩] n) 9 (0, 0)) ∧ wc.heap[V]? = some (.cells (madeCells #[.string ⟨#[]⟩] n) 9 (0, 0)) ∧ wc.heap[w.heap.size]? = some (.cells #[.slice none 0 0, .slice none 0 0] 59 (0, 0)) ∧ (K ≠ V ∧ T ≠ w.heap.size ∧ w.heap.size ≤ T ∧ w.heap.size ≤ K ∧ w.heap.size ≤ V) ∧ Below w.heap.size w wc))
 case first =>
  go_region
  all_goals (go_wp2; go_meet)
  all_goals (apply Exists.intro; apply Exists.intro; apply Exists.intro; refine ⟨rfl, ⟨⟨?qA, ?qB, ?qC, ?qD, ?qE, ?qF⟩⟩⟩; (case qA => repeat (first | (refine blk_new_at ?_; simp; done) | exact blk_new _ _ | apply blk_drew_ | apply blk_alloc_)); (case qB => repeat (first | (refine blk_new_at ?_; simp; done) | exact blk_new _ _ | apply blk_drew_ | apply blk_alloc_)); (case qC => repeat (first | (refine blk_new_at ?_; simp; done) | exact blk_new _ _ | apply blk_drew_ | apply blk_alloc_)); (case qD => repeat (first | (refine blk_new_at ?_; simp; done) | exact blk_new _ _ | apply blk_drew_ | apply blk_alloc_)); (case qE => refine ⟨?_, ?_, ?_, ?_, ?_⟩ <;> omega); (case qF => repeat (first | exact Below.refl _ _ | apply b1_ | apply b2_ | apply b3_)))
 obtain ⟨T, K, V, rfl, hcc⟩ := hcut
 clear hmk q0 q1
 obtain ⟨hA, hB, hn, h0⟩ := HH.out
 obtain ⟨k1, k2, k3, k4, ⟨k5, k6, k7, k8, k9⟩, k10⟩ := hcc.out
 obtain ⟨ss, s1, s2, s3, s4⟩ := str_cells (hA.below k10)
 have hnil : (madeCells #[.string ⟨#[]⟩] n).toList.drop (0 + (ss.map Value.string).length) = [] := List.drop_eq_nil_of_le (by rw [Array.length_toList, size_madeCells]; omega)
 have hcp := copyAt Tryz.underlying57 info9s wc K 0 n n c A _ 9 (ss.map Value.string) k2 s2 s4 (by rw [size_madeCells]; omega) s3
 rw [hnil, List.append_nil, List.take_zero, List.nil_append] at hcp
 obtain ⟨w2, hw2⟩ : ∃ w2, w2 = wc.setRow K (ss.map Value.string).toArray := ⟨_, rfl⟩
 rw [← hw2] at hcp
 have m2 : w2.heap[K]? = some (.cells (ss.map Value.string).toArray 9 (0, 0)) := by rw [hw2]; exact setRow_heap _ _ _ _ _ _ k2
 have st : ∀ k, k ≠ K → w2.heap[k]? = wc.heap[k]? := fun k hk => by rw [hw2]; exact setRow_other _ _ _ _ hk
 have hTK : T ≠ K := blk_ne k1 k2 (by decide)
 have hTV : T ≠ V := blk_ne k1 k3 (by decide)
 have hRK : w.heap.size ≠ K := blk_ne k4 k2 (by decide)
 have hRV : w.heap.size ≠ V := blk_ne k4 k3 (by decide)
 have m1 := (st T hTK).trans k1
 have m3 := (st V (fun e => k5 e.symm)).trans k3
 have m4 := (st _ hRK).trans k4
 have m10 : Below w.heap.size w w2 := by rw [hw2]; exact below_setRow k10 k8 _
 obtain ⟨ts, t1, t2, t3, t4⟩ := str_cells (hB.below m10)
 have hnil2 : (madeCells #[.string ⟨#[]⟩] n).toList.drop (0 + (ts.map Value.string).length) = [] := List.drop_eq_nil_of_le (by rw [Array.length_toList, size_madeCells]; omega)
 have hcp2 := copyAt Tryz.underlying57 info9s w2 V 0 n n d B _ 9 (ts.map Value.string) m3 t2 t4 (by rw [size_madeCells]; omega) t3
 rw [hnil2, List.append_nil, List.take_zero, List.nil_append] at hcp2
 obtain ⟨w3, hw3⟩ : ∃ w3, w3 = w2.setRow V (ts.map Value.string).toArray := ⟨_, rfl⟩
 rw [← hw3] at hcp2
 have n3 : w3.heap[V]? = some (.cells (ts.map Value.string).toArray 9 (0, 0)) := by rw [hw3]; exact setRow_heap _ _ _ _ _ _ m3
 have st3 : ∀ k, k ≠ V → w3.heap[k]? = w2.heap[k]? := fun k hk => by rw [hw3]; exact setRow_other _ _ _ _ hk
 have n1 := (st3 T hTV).trans m1
 have n2 := (st3 K k5).trans m2
 have n4 := (st3 _ hRV).trans m4
 have n10 : Below w.heap.size w w3 := by rw [hw3]; exact below_setRow m10 k9 _
 have c0 := (blk_cell k1 0).trans (show _ = some (.slice (some ⟨K, 0, none⟩) n n : Value) from rfl)
 have d1 := (blk_cell m1 1).trans (show _ = some (.slice (some ⟨V, 0, none⟩) n n : Value) from rfl)
 have e0 := (blk_cell n1 0).trans (show _ = some (.slice (some ⟨K, 0, none⟩) n n : Value) from rfl)
 have e1 := (blk_cell n1 1).trans (show _ = some (.slice (some ⟨V, 0, none⟩) n n : Value) from rfl)
 have g0 := (blk_cell n4 0).trans (show _ = some (.slice none 0 0 : Value) from rfl)
 have g1 := (blk_cell n4 1).trans (show _ = some (.slice none 0 0 : Value) from rfl)
 have f0 := blk_frozen n4 0
 have f1 := blk_frozen n4 1
 have HX := Aside0.mk (And.intro n2 (And.intro n3 (And.intro n10 (And.intro hRK (And.intro hRV (And.intro s1 t1))))))
 clear n1 n2 n3 n4 n10 m1 m2 m3 m4 m10 k1 k2 k3 k4 k5 k6 k7 k8 k9 k10 hTK hTV hRK hRV st st3 hw2 hw3 hnil hnil2 s1 s2 s3 s4 t1 t2 t3 t4 hA hB hn h0
 go_wp2
 refine bodyPost_ret (v := .agg #[.slice (some ⟨K, 0, none⟩) n n, .slice (some ⟨V, 0, none⟩) n n]) (by simp [results, Tryz.results77, go_sem, g0, g1]) rfl ⟨⟨some ⟨K, 0, none⟩, n, some ⟨V, 0, none⟩, n, rfl, str_at HX.out.2.2.2.2.2.1 (blk_other_ HX.out.2.2.2.1.symm (blk_other_ HX.out.2.2.2.1.symm HX.out.1)), str_at HX.out.2.2.2.2.2.2 (blk_other_ HX.out.2.2.2.2.1.symm (blk_other_ HX.out.2.2.2.2.1.symm HX.out.2.1))⟩, ?_⟩
 exact (HX.out.2.2.1.setCell (p := ⟨w.heap.size, 0, none⟩) (Nat.le_refl _) _).setCell (p := ⟨w.heap.size, 1, none⟩) (Nat.le_refl _) _
theorem clone97n (n : Nat) (A B : Option Addr) (c d : Nat) (hn : n ≤ 1000) (w : World) (hA : StrAt w A n) (hB : StrAt w B n) :
 Calls Tryz.prog 97 #[.agg #[.slice A n c, .slice B n d]] w fun e w' => (∃ K k V v, e = .returned (.agg #[.slice K n k, .slice V n v]) ∧ StrAt w' K n ∧ StrAt w' V n) ∧ Below w.heap.size w w' := by
 by_cases h0 : n = 0
 ·subst h0
  go_enter Tryz.func97, Tryz.ntmps97
  go_wp2
  refine bodyPost_ret (v := .agg #[.slice none 0 0, .slice none 0 0]) (by simp [results, Tryz.results97, go_sem]) rfl ⟨⟨none, 0, none, 0, rfl, ⟨[], rfl, fun h => absurd h (by simp)⟩, ⟨[], rfl, fun h => absurd h (by simp)⟩⟩, ?_⟩
  repeat (first | exact Below.refl _ _ | apply b1_ | apply b2_ | apply b3_)
 have hmk := make57 n (by omega)
 have q0 : ((n : Int) == 0) = false := beq_eq_false_iff_ne.2 (by omega)
 have q1 : (n = 0) = False := eq_false h0
 have HH := Aside0.mk (And.intro hA (And.intro hB (And.intro hn h0)))
 clear hA hB hn h0
 go_enter Tryz.func97, Tryz.ntmps97
 go_upto_region 3 with fail
 go_cut [3] (fun v3 wc => ∃ T K V, v3 = .pointer (some ⟨T, 0, none⟩) ∧ Aside0 (wc.heap[T]? = some (.cells #[.slice (some ⟨K, 0, none⟩) n n, .slice (some ⟨V, 0, none⟩) n n] 59 (0, 0)) ∧ wc.heap[K]? = some (.cells (madeCells #[.string ⟨#[]⟩] n) 9 (0, 0)) ∧ wc.heap[V]? = some (.cells (madeCells #[.string ⟨#[]⟩] n) 9 (0, 0)) ∧ wc.heap[w.heap.size + 1]? = some (.cells #[.slice none 0 0, .slice none 0 0] 59 (0, 0)) ∧ wc.heap[w.heap.size]? = some (.cells #[.slice A n c, .slice B n d] 59 (0, 0)) ∧ (K ≠ V ∧ T ≠ w.heap.size + 1 ∧ w.heap.size ≤ T ∧ w.heap.size ≤ K ∧ w.heap.size ≤ V) ∧ Below w.heap.size w wc))
 case first =>
  go_region
  all_goals (go_wp2; go_meet)
  all_goals (apply Exists.intro; apply Exists.intro; apply Exists.intro; refine ⟨rfl, ⟨⟨?qA, ?qB, ?qC, ?qD, ?qG, ?qE, ?qF⟩⟩⟩; (case qA => repeat (first | (refine blk_new_at ?_; simp; done) | exact blk_new _ _ | apply blk_drew_ | apply blk_alloc_)); (case qB => repeat (first | (refine blk_new_at ?_; simp; done) | exact blk_new _ _ | apply blk_drew_ | apply blk_alloc_)); (case qC => repeat (first | (refine blk_new_at ?_; simp; done) | exact blk_new _ _ | apply blk_drew_ | apply blk_alloc_)); (case qD => repeat (first | (refine blk_new_at ?_; simp; done) | exact blk_new _ _ | apply blk_drew_ | apply blk_alloc_)); (case qG => repeat (first | (refine blk_new_at ?_; simp; done) | exact blk_new _ _ | apply blk_drew_ | apply blk_alloc_)); (case qE => refine ⟨?_, ?_, ?_, ?_, ?_⟩ <;> omega); (case qF => repeat (first | exact Below.refl _ _ | apply b1_ | apply b2_ | apply b3_)))
 obtain ⟨T, K, V, rfl, hcc⟩ := hcut
 clear hmk q0 q1
 obtain ⟨hA, hB, hn, h0⟩ := HH.out
 obtain ⟨k1, k2, k3, k4, k4b, ⟨k5, k6, k7, k8, k9⟩, k10⟩ := hcc.out
 obtain ⟨ss, s1, s2, s3, s4⟩ := str_cells (hA.below k10)
 have hnil : (madeCells #[.string ⟨#[]⟩] n).toList.drop (0 + (ss.map Value.string).length) = [] := List.drop_eq_nil_of_le (by rw [Array.length_toList, size_madeCells]; omega)
 have hcp := copyAt Tryz.underlying57 info9s wc K 0 n n c A _ 9 (ss.map Value.string) k2 s2 s4 (by rw [size_madeCells]; omega) s3
 rw [hnil, List.append_nil, List.take_zero, List.nil_append] at hcp
 obtain ⟨w2, hw2⟩ : ∃ w2, w2 = wc.setRow K (ss.map Value.string).toArray := ⟨_, rfl⟩
 rw [← hw2] at hcp
 have m2 : w2.heap[K]? = some (.cells (ss.map Value.string).toArray 9 (0, 0)) := by rw [hw2]; exact setRow_heap _ _ _ _ _ _ k2
 have st : ∀ k, k ≠ K → w2.heap[k]? = wc.heap[k]? := fun k hk => by rw [hw2]; exact setRow_other _ _ _ _ hk
 have hTK : T ≠ K := blk_ne k1 k2 (by decide)
 have hTV : T ≠ V := blk_ne k1 k3 (by decide)
 have hRK : w.heap.size + 1 ≠ K := blk_ne k4 k2 (by decide)
 have hRV : w.heap.size + 1 ≠ V := blk_ne k4 k3 (by decide)
 have m1 := (st T hTK).trans k1
 have m3 := (st V (fun e => k5 e.symm)).trans k3
 have m4 := (st _ hRK).trans k4
 have m4b := (st _ (blk_ne k4b k2 (by decide))).trans k4b
 have p0 := (blk_cell k4b 0).trans (show _ = some (.slice A n c : Value) from rfl)
 have p1 := (blk_cell m4b 1).trans (show _ = some (.slice B n d : Value) from rfl)
 have m10 : Below w.heap.size w w2 := by rw [hw2]; exact below_setRow k10 k8 _
 obtain ⟨ts, t1, t2, t3, t4⟩ := str_cells (hB.below m10)
 have hnil2 : (madeCells #[.string ⟨#[]⟩] n).toList.drop (0 + (ts.map Value.string).length) = [] := List.drop_eq_nil_of_le (by rw [Array.length_toList, size_madeCells]; omega)
 have hcp2 := copyAt Tryz.underlying57 info9s w2 V 0 n n d B _ 9 (ts.map Value.string) m3 t2 t4 (by rw [size_madeCells]; omega) t3
 rw [hnil2, List.append_nil, List.take_zero, List.nil_append] at hcp2
 obtain ⟨w3, hw3⟩ : ∃ w3, w3 = w2.setRow V (ts.map Value.string).toArray := ⟨_, rfl⟩
 rw [← hw3] at hcp2
 have n3 : w3.heap[V]? = some (.cells (ts.map Value.string).toArray 9 (0, 0)) := by rw [hw3]; exact setRow_heap _ _ _ _ _ _ m3
 have st3 : ∀ k, k ≠ V → w3.heap[k]? = w2.heap[k]? := fun k hk => by rw [hw3]; exact setRow_other _ _ _ _ hk
 have n1 := (st3 T hTV).trans m1
 have n2 := (st3 K k5).trans m2
 have n4 := (st3 _ hRV).trans m4
 have n10 : Below w.heap.size w w3 := by rw [hw3]; exact below_setRow m10 k9 _
 have c0 := (blk_cell k1 0).trans (show _ = some (.slice (some ⟨K, 0, none⟩) n n : Value) from rfl)
 have d1 := (blk_cell m1 1).trans (show _ = some (.slice (some ⟨V, 0, none⟩) n n : Value) from rfl)
 have e0 := (blk_cell n1 0).trans (show _ = some (.slice (some ⟨K, 0, none⟩) n n : Value) from rfl)
 have e1 := (blk_cell n1 1).trans (show _ = some (.slice (some ⟨V, 0, none⟩) n n : Value) from rfl)
 have g0 := (blk_cell n4 0).trans (show _ = some (.slice none 0 0 : Value) from rfl)
 have g1 := (blk_cell n4 1).trans (show _ = some (.slice none 0 0 : Value) from rfl)
 have f0 := blk_frozen n4 0
 have f1 := blk_frozen n4 1
 have HX := Aside0.mk (And.intro n2 (And.intro n3 (And.intro n10 (And.intro hRK (And.intro hRV (And.intro s1 t1))))))
 clear n1 n2 n3 n4 n10 m1 m2 m3 m4 m4b m10 k1 k2 k3 k4 k4b k5 k6 k7 k8 k9 k10 hTK hTV hRK hRV st st3 hw2 hw3 hnil hnil2 s1 s2 s3 s4 t1 t2 t3 t4 hA hB hn h0
 go_wp2
 refine bodyPost_ret (v := .agg #[.slice (some ⟨K, 0, none⟩) n n, .slice (some ⟨V, 0, none⟩) n n]) (by simp [results, Tryz.results97, go_sem, g0, g1]) rfl ⟨⟨some ⟨K, 0, none⟩, n, some ⟨V, 0, none⟩, n, rfl, str_at HX.out.2.2.2.2.2.1 (blk_other_ HX.out.2.2.2.1.symm (blk_other_ HX.out.2.2.2.1.symm HX.out.1)), str_at HX.out.2.2.2.2.2.2 (blk_other_ HX.out.2.2.2.2.1.symm (blk_other_ HX.out.2.2.2.2.1.symm HX.out.2.1))⟩, ?_⟩
 exact (HX.out.2.2.1.setCell (p := ⟨w.heap.size + 1, 0, none⟩) (Nat.le_succ _) _).setCell (p := ⟨w.heap.size + 1, 1, none⟩) (Nat.le_succ _) _
section
variable {P : Program} {md : Region.Mode} {ops : Array Oper} {Q : Exit → Act → World → Prop} {S : World → Prop} {ds : List Nat} {n m fuel : Nat} {oi : Oper} {a a' : Act} {l : Array Bool} {w : World}
theorem rax (i N M : Nat) {rs : List Nat} (base : Nat) (s x : Operand) (t e : TypeId) (z : Value) (bytes : Nat) (v : Value) (k : Nat) (xs : List Value) (ad : Addr) (u : Value)
 (hown : w.ownsRow base e 1 v k xs) (hu : w.cell? ad = some u) (h1 : u.oneCell' = true) (hbase : base ≤ w.heap.size) (hlen : (k + 1) * bytes ≤ 140737488355328)
 (h : ∀ v1 w1, w1.ownsRow base e 1 v1 (k + 1) (xs ++ [u]) → w.grownBy w1 v.ownBlock → (v1.ownBlock = v.ownBlock ∨ v1.ownBlock = some w.heap.size) → S w1 ∧ wpAnyLast P md ops Q S ds fuel (ba n M) (a.put (some N) v1) w1)
 (hr : AllReadyL P md ops Q S ds fuel (ba n m) a w rs)
 (ht : P.underlying t = some (.slice e)) (hinfo : (P.info? e).map (fun i => (i.zero, i.size, i.bytes)) = some (some z, 1, bytes)) (hz : z.cells.size = 1) (hb0 : 0 < bytes)
 (hi : ops[i]? = some oi := by exact rfl) (ho : oi.op = .call { callee := .builtin .append, args := #[s, x], argTypes := #[t, t] } := by exact rfl) (hs : a.eval s = v := by rfl) (hx : a.eval x = .slice (some ad) 1 1 := by rfl)
 (hN : oi.dst = some N := by exact rfl) (hl : (ba n m).setIfInBounds i true = ba n M := by kernel_rfl) (hd : i ∉ ds := by decide) (hw : Region.wanted oi (yielded ops a.tmps) = true := by rfl) :
 AllReadyL P md ops Q S ds fuel (ba n m) a w (i :: rs) := by
 refine AllReadyL.cons hi hd (fun K hK => ?_) hr
 rw [hl] at hK
 rw [if_pos hw]
 obtain ⟨i0, hi0, hzz⟩ := Option.map_eq_some_iff.1 hinfo
 simp only [Prod.mk.injEq] at hzz
 obtain ⟨hz0, hz1, hz2⟩ := hzz
 have hlen2 : k + 1 ≤ 140737488355328 := Nat.le_trans (Nat.le_mul_of_pos_right _ hb0) hlen
 obtain ⟨v1, w1, hrun, hown1, hg, _, hat⟩ := run_append_own_at (P := P) w base t oi.type e i0 z 1 bytes ht hi0 hz0 hz1 hz2 hz (by decide) v k xs hown ad 1 1 [u] rfl (fun j y hj => by
  match j, hj with
  | 0, hj =>
   obtain rfl : u = y := by simpa using hj
   have e0 : ad.add 0 = ad := by simp [Addr.add]
   rw [e0]
   exact hu
  | j + 1, hj => simp at hj) (fun y hy => by obtain rfl : y = u := (by simpa using hy); exact h1) (by simp only [maxLen]; omega) hlen hbase
 unfold Oper.wp execOp
 simp only [ho, resolve, invoke, builtin, Sem.run_bind, Sem.run_pure, Result.andThen_ok, List.map_toArray, List.map_cons, List.map_nil, hs, hx, hrun]
 show K (a.put oi.dst v1) w1
 rw [hN]
 exact hK.out _ _ (h v1 w1 hown1 hg hat).1 (fun _ => (h v1 w1 hown1 hg hat).2)
end
def AllS (xs : List Value) : Prop := ∀ u ∈ xs, ∃ s, u = Value.string s
def NeB (v v' : Value) : Prop := ∀ k, v.ownBlock = some k → v'.ownBlock ≠ some k
structure MetaSt (b0 : Nat) (W : World) (F R : Nat) (cF : Array Value) (vk vv : Value) (nk nv : Nat) : Prop where
 hF : W.heap[F]? = some (.cells cF 73 (0, 0))
 hR : W.heap[R]? = some (.cells #[.slice none 0 0, .slice none 0 0] 59 (0, 0))
 hk : ∃ xs, W.ownsRow b0 9 1 vk nk xs ∧ AllS xs
 hv : ∃ xs, W.ownsRow b0 9 1 vv nv xs ∧ AllS xs
 ne : NeB vk vv
theorem own_below_ {w w' : World} {base : Nat} {e : TypeId} {size n : Nat} {v : Value} {xs : List Value} (h : w.ownsRow base e size v n xs) (hb : Below w.heap.size w w') : w'.ownsRow base e size v n xs := own_move h (fun k hk => hb.block k (own_lt h k hk))
theorem own_grown_ {w w' : World} {base : Nat} {e : TypeId} {size n : Nat} {v : Value} {xs : List Value} {row : Option Nat} (h : w.ownsRow base e size v n xs) (hg : w.grownBy w' row) (hne : ∀ k, v.ownBlock = some k → row ≠ some k) : w'.ownsRow base e size v n xs := own_move h (fun k hk => hg.block k (own_lt h k hk) (fun e => hne k hk e.symm))
theorem MetaSt.below {b0 : Nat} {W W' : World} {F R : Nat} {cF : Array Value} {vk vv : Value} {nk nv : Nat} (h : MetaSt b0 W F R cF vk vv nk nv) (hb : Below W.heap.size W W') : MetaSt b0 W' F R cF vk vv nk nv := by
 obtain ⟨xs, h1, h2⟩ := h.hk
 obtain ⟨ys, h3, h4⟩ := h.hv
 exact ⟨blk_below h.hF hb, blk_below h.hR hb, ⟨xs, own_below_ h1 hb, h2⟩, ⟨ys, own_below_ h3 hb, h4⟩, h.ne⟩
theorem own_ne_ {w : World} {base : Nat} {e : TypeId} {n : Nat} {v : Value} {xs : List Value} (h : w.ownsRow base e 1 v n xs) {g : Nat} {cs : Array Value} {t : TypeId} (hg : w.heap[g]? = some (.cells cs t (0, 0))) (hne : e ≠ t) : some g ≠ v.ownBlock := fun he => by
 obtain ⟨cells, hc⟩ := own_typed h g he.symm
 rw [hg] at hc
 injection hc with hc
 injection hc with _ hc
 exact hne hc.symm
theorem grown_blk {W W' : World} {row : Option Nat} (hg : W.grownBy W' row) {g : Nat} {o : Obj} (h : W.heap[g]? = some o) (hne : some g ≠ row) : W'.heap[g]? = some o := (hg.block g (blk_lt h) (fun e => hne e)).trans h
theorem AllS.snoc {xs : List Value} (h : AllS xs) (s : ByteArray) : AllS (xs ++ [.string s]) := fun u hu => by
 rcases List.mem_append.1 hu with hu | hu
 ·exact h u hu
 ·exact ⟨s, by simpa using hu⟩
theorem MetaSt.appK {b0 : Nat} {W W' : World} {F R : Nat} {cF : Array Value} {vk vv v1 : Value} {nk nv : Nat} {xs : List Value} {s : ByteArray} (h : MetaSt b0 W F R cF vk vv nk nv) (hx : W.ownsRow b0 9 1 vk nk xs) (hs : AllS xs) (ho : W'.ownsRow b0 9 1 v1 (nk + 1) (xs ++ [.string s])) (hg : W.grownBy W' vk.ownBlock) (hat : v1.ownBlock = vk.ownBlock ∨ v1.ownBlock = some W.heap.size) : MetaSt b0 W' F R cF v1 vv (nk + 1) nv := by
 obtain ⟨ys, h3, h4⟩ := h.hv
 refine ⟨grown_blk hg h.hF (own_ne_ hx h.hF (by decide)), grown_blk hg h.hR (own_ne_ hx h.hR (by decide)), ⟨_, ho, hs.snoc s⟩, ⟨ys, own_grown_ h3 hg (fun k hk e => h.ne k e hk), h4⟩, fun k hk e => ?_⟩
 rcases hat with hat | hat
 ·exact h.ne k (hat ▸ hk) e
 ·rw [hat] at hk
  cases hk
  exact absurd (own_lt h3 _ e) (Nat.lt_irrefl _)
theorem MetaSt.appV {b0 : Nat} {W W' : World} {F R : Nat} {cF : Array Value} {vk vv v1 : Value} {nk nv : Nat} {xs : List Value} {s : ByteArray} (h : MetaSt b0 W F R cF vk vv nk nv) (hx : W.ownsRow b0 9 1 vv nv xs) (hs : AllS xs) (ho : W'.ownsRow b0 9 1 v1 (nv + 1) (xs ++ [.string s])) (hg : W.grownBy W' vv.ownBlock) (hat : v1.ownBlock = vv.ownBlock ∨ v1.ownBlock = some W.heap.size) : MetaSt b0 W' F R cF vk v1 nk (nv + 1) := by
 obtain ⟨ys, h3, h4⟩ := h.hk
 refine ⟨grown_blk hg h.hF (own_ne_ hx h.hF (by decide)), grown_blk hg h.hR (own_ne_ hx h.hR (by decide)), ⟨ys, own_grown_ h3 hg (fun k hk e => h.ne k hk e), h4⟩, ⟨_, ho, hs.snoc s⟩, fun k hk e => ?_⟩
 rcases hat with hat | hat
 ·exact h.ne k hk (hat ▸ e)
 ·rw [hat] at e
  cases e
  exact absurd (own_lt h3 _ hk) (Nat.lt_irrefl _)
theorem str_of_own {W : World} {base n : Nat} {v : Value} {xs : List Value} (h : W.ownsRow base 9 1 v n xs) (hs : AllS xs) : ∃ A c, v = .slice A n c ∧ StrAt W A n := by
 rcases h.2 with ⟨rfl, rfl⟩ | ⟨g, cap, cur, rfl, hb, hg, hn, hm, hc, ht⟩
 ·exact ⟨none, 0, rfl, [], rfl, fun h => absurd h (by simp)⟩
 ·have key : ∀ l : List Value, AllS l → ∃ ss : List ByteArray, l = ss.map Value.string := by
   intro l
   induction l with
   | nil => intro _; exact ⟨[], rfl⟩
   | cons u r ih =>
    intro hl
    obtain ⟨s, rfl⟩ := hl u (by simp)
    obtain ⟨ss, rfl⟩ := ih (fun u hu => hl u (by simp [hu]))
    exact ⟨s :: ss, rfl⟩
  obtain ⟨ss, rfl⟩ := key xs hs
  have hl : ss.length = n := by have := h.1; simpa using this
  refine ⟨_, cap, rfl, ss, hl, fun _ => ⟨g, cur, rfl, hg, fun j s hj => ?_⟩⟩
  have hjn : j < n := by have := (List.getElem?_eq_some_iff.mp hj).1; omega
  rw [← Array.getElem?_toList]
  have e := congrArg (fun z => z[j]?) ht
  simp only [Nat.mul_one, List.getElem?_take, hjn, if_true, List.getElem?_map, hj, Option.map_some] at e
  exact e
theorem info9_ : (Tryz.prog.info? 9).map (fun i => (i.zero, i.size, i.bytes)) = some (some (.string ⟨#[]⟩), 1, 16) := by kernel_rfl
theorem meta43n (ms : List S73) (A : Option Addr) (c : Nat) (w : World) (hC : Kd.C k73 w A ms.length ms) (hm : ms.length ≤ 1000) :
 Calls Tryz.prog 43 #[.slice A ms.length c] w fun e w' => (∃ K k V v, e = .returned (.agg #[.slice K ms.length k, .slice V ms.length v]) ∧ StrAt w' K ms.length ∧ StrAt w' V ms.length) ∧ Below w.heap.size w w' := by
 have HC := Aside0.mk (And.intro hC hm)
 clear hC hm
 go_enter Tryz.func43, Tryz.ntmps43
 go_upto_region 2 with fail
 refine wp_at ?_
 intro w0 hw0
 have b0 : Below w.heap.size w w0 := by rw [hw0]; repeat (first | exact Below.refl _ _ | apply b1_ | apply b2_ | apply b3_)
 have r0 : w0.heap[w.heap.size]? = some (.cells #[.slice none 0 0, .slice none 0 0] 59 (0, 0)) := by rw [hw0]; exact blk_new _ _
 clear hw0
 have H0 := Aside0.mk (And.intro b0 r0)
 clear b0 r0
 go_wp2
 go_loopg [3, 4, 9] ms.length (fun kq v3 v4 v9 wr => ∃ i : Nat, v9 = .int .i64 (i : Int) ∧ Aside0 (i + kq = ms.length ∧ Below w.heap.size w wr ∧ wr.heap[w.heap.size]? = some (.cells #[.slice none 0 0, .slice none 0 0] 59 (0, 0)) ∧ (∃ xs, wr.ownsRow (w.heap.size + 1) 9 1 v3 i xs ∧ AllS xs) ∧ (∃ xs, wr.ownsRow (w.heap.size + 1) 9 1 v4 i xs ∧ AllS xs) ∧ NeB v3 v4))
 case atStart => exact ⟨0, rfl, ⟨⟨by omega, H0.out.1, H0.out.2, ⟨[], World.ownsRow_nil _ _ _ _, fun u hu => by simp at hu⟩, ⟨[], World.ownsRow_nil _ _ _ _, fun u hu => by simp at hu⟩, fun k hk => by simp [Value.ownBlock] at hk⟩⟩⟩
 case round =>
  obtain ⟨i, rfl, hA⟩ := hrel
  by_cases hi : i < ms.length
  ·have hd : decide ((i : Int) < (ms.length : Int)) = true := by simpa using hi
   obtain ⟨ad, rfl, g0, g1⟩ := at_T73 HC.out.1 (i : Int) (by omega) (by omega)
   rw [Int.toNat_natCast] at g0 g1
   have x0 := pw_cell_below hA.out.2.1 g0
   have x1 := pw_cell_below hA.out.2.1 g1
   generalize (rd_T73 ms (i : Int)).f0 = a at x0
   generalize (rd_T73 ms (i : Int)).f1 = b at x1
   have e1 : wrap64 ((i : Int) + 1) = ((i + 1 : Nat) : Int) := by have := HC.out.2; rw [w64_id _ (by omega) (by omega)]; omega
   have E1 := Aside0.mk e1
   have HI := Aside0.mk (show i ≤ 1000 from by have := HC.out.2; omega)
   clear e1 g0 g1
   go_upto_region 5 with fail
   refine wp_at ?_
   intro w1 hw1
   have b1 : Below wr.heap.size wr w1 := by rw [hw1]; repeat (first | exact Below.refl _ _ | apply b1_ | apply b2_ | apply b3_)
   have kF : w1.heap[wr.heap.size]? = some (.cells #[.string a, .string b] 73 (0, 0)) := by rw [hw1]; exact blk_new_at rfl
   clear hw1 x0 x1
   have y0 := (blk_cell kF 0).trans (show _ = some (.string a : Value) from rfl)
   have y1 := (blk_cell kF 1).trans (show _ = some (.string b : Value) from rfl)
   have bw := below_step hA.out.2.1 b1
   have HM := Aside0.mk (show MetaSt (w.heap.size + 1) w1 wr.heap.size w.heap.size #[.string a, .string b] u3 u4 i i from by
    obtain ⟨q1, q2, q3, ⟨xk, q4, q5⟩, ⟨xv, q6, q7⟩, q8⟩ := hA.out
    exact ⟨kF, blk_below q3 b1, ⟨xk, own_below_ q4 b1, q5⟩, ⟨xv, own_below_ q6 b1, q7⟩, q8⟩)
   have HS := Aside0.mk (show w.heap.size + 1 ≤ w1.heap.size from by have := blk_lt hA.out.2.2.1; have := b1.size; omega)
   refine sc 12 (fun w' => Below w.heap.size w w' ∧ w'.cell? ⟨wr.heap.size, 0, none⟩ = some (.string a) ∧ w'.cell? ⟨wr.heap.size, 1, none⟩ = some (.string b)) (fun hk0 v0 hs0 hb => ?_)
   have st0 := MetaSt.below HM.out hb
   have HS2 := Aside0.mk (hb.size)
   clear b1 kF y0 y1 bw hb
   refine pu 0 13 1 ?_
   refine pu 1 14 3 ?_
   refine ta 2 15 7 ?_
   refine pu 5 18 39 ?_
   refine pu 6 19 103 ?_
   refine ta 7 20 231 ?_
   obtain ⟨xk0, ok0, sk0⟩ := st0.hk
   obtain ⟨xv0, ov0, sv0⟩ := st0.hv
   refine rdy [3, 8] (rl 3 16 239 (.slice (some ⟨v0.heap.size, 0, none⟩) 1 1) (.cells #[.string a] 9 (0, 0)) hk0 hs0 (fun v1 hz1 hg1 hs1 hb1 => no 16 ?_) (rl 8 21 487 (.slice (some ⟨v0.heap.size, 0, none⟩) 1 1) (.cells #[.string b] 9 (0, 0)) hk0 hs0 (fun v1 hz1 hg1 hs1 hb1 => no 21 ?_) rn))
   ·have st1 := MetaSt.below st0 hb1
    obtain ⟨xk1, ok1, sk1⟩ := st1.hk
    obtain ⟨xv1, ov1, sv1⟩ := st1.hv
    refine rdy [4, 8] (rax 4 17 255 (w.heap.size + 1) (.tmp 13) (.tmp 16) 57 9 (.string ⟨#[]⟩) 16 u3 i xk1 ⟨v0.heap.size, 0, none⟩ (.string a) ok1 ((blk_cell hg1 0).trans rfl) rfl (blk_lt st1.hR) (by have := HI.out; omega) (fun z2 v2 hown2 hg2 hat2 => ⟨?_, no 17 ?_⟩) (rl 8 21 495 (.slice (some ⟨v1.heap.size, 0, none⟩) 1 1) (.cells #[.string b] 9 (0, 0)) hk0 hs1 (fun v2 hz2 hg2 hs2 hb2 => no 21 ?_) rn) Tryz.underlying57 info9_ rfl (by decide))
    ·have st2 := MetaSt.appK st1 ok1 sk1 hown2 hg2 hat2
     exact ⟨(hs1.1).grown hg2 (by have := HS.out; have := hs1.1.size; omega) (fun q hq => by have := own_base ok1 q hq; omega), (blk_cell st2.hF 0).trans rfl, (blk_cell st2.hF 1).trans rfl⟩
    ·have st2 := MetaSt.appK st1 ok1 sk1 hown2 hg2 hat2
     have hs2 : (fun w' => Below w.heap.size w w' ∧ w'.cell? ⟨wr.heap.size, 0, none⟩ = some (.string a) ∧ w'.cell? ⟨wr.heap.size, 1, none⟩ = some (.string b)) v2 := ⟨(hs1.1).grown hg2 (by have := HS.out; have := hs1.1.size; omega) (fun q hq => by have := own_base ok1 q hq; omega), (blk_cell st2.hF 0).trans rfl, (blk_cell st2.hF 1).trans rfl⟩
     obtain ⟨xk2, ok2, sk2⟩ := st2.hk
     obtain ⟨xv2, ov2, sv2⟩ := st2.hv
     refine rdy [8] (rl 8 21 511 (.slice (some ⟨v2.heap.size, 0, none⟩) 1 1) (.cells #[.string b] 9 (0, 0)) hk0 hs2 (fun v3 hz3 hg3 hs3 hb3 => no 21 ?_) rn)
     ·have st3 := MetaSt.below st2 hb3
      obtain ⟨xk3, ok3, sk3⟩ := st3.hk
      obtain ⟨xv3, ov3, sv3⟩ := st3.hv
      refine rdy [9] (rax 9 22 1023 (w.heap.size + 1) (.tmp 18) (.tmp 21) 57 9 (.string ⟨#[]⟩) 16 u4 i xv3 ⟨v2.heap.size, 0, none⟩ (.string b) ov3 ((blk_cell hg3 0).trans rfl) rfl (blk_lt st3.hR) (by have := HI.out; omega) (fun z4 v4 hown4 hg4 hat4 => ⟨?_, no 22 ?_⟩) rn Tryz.underlying57 info9_ rfl (by decide))
      ·have st4 := MetaSt.appV st3 ov3 sv3 hown4 hg4 hat4
       exact ⟨(hs3.1).grown hg4 (by have := HS.out; have := hs3.1.size; omega) (fun q hq => by have := own_base ov3 q hq; omega), (blk_cell st4.hF 0).trans rfl, (blk_cell st4.hF 1).trans rfl⟩
      ·have st4 := MetaSt.appV st3 ov3 sv3 hown4 hg4 hat4
       have hs4 : (fun w' => Below w.heap.size w w' ∧ w'.cell? ⟨wr.heap.size, 0, none⟩ = some (.string a) ∧ w'.cell? ⟨wr.heap.size, 1, none⟩ = some (.string b)) v4 := ⟨(hs3.1).grown hg4 (by have := HS.out; have := hs3.1.size; omega) (fun q hq => by have := own_base ov3 q hq; omega), (blk_cell st4.hF 0).trans rfl, (blk_cell st4.hF 1).trans rfl⟩
       refine pu 10 3 2047 ?_
       refine pu 11 4 4095 ?_
       refine done_ (by kernel_rfl) ?_
       have HG := Aside0.mk (And.intro st4 hs4.1)
       clear hs0 st0 ok0 sk0 ov0 sv0 hz1 hg1 hs1 hb1 st1 ok1 sk1 ov1 sv1 hown2 hg2 hat2 hs2 st2 ok2 sk2 ov2 sv2 hz3 hg3 hs3 hb3 st3 ok3 sk3 ov3 sv3 hown4 hg4 hat4 hs4 st4 hk0
       go_wp2
       have h1 := hA.out.1
       go_roundg (ms.length - (i + 1))
       case measure => omega
       case rel => exact ⟨i + 1, by first | go_num | (rw [E1.out]), ⟨⟨by omega, HG.out.2, HG.out.1.hR, HG.out.1.hk, HG.out.1.hv, HG.out.1.ne⟩⟩⟩
    ·have st2 := MetaSt.below st1 hb2
     have kx2 := blk_below hg1 hb2
     obtain ⟨xk2, ok2, sk2⟩ := st2.hk
     obtain ⟨xv2, ov2, sv2⟩ := st2.hv
     refine rdy [4] (rax 4 17 511 (w.heap.size + 1) (.tmp 13) (.tmp 16) 57 9 (.string ⟨#[]⟩) 16 u3 i xk2 ⟨v0.heap.size, 0, none⟩ (.string a) ok2 ((blk_cell kx2 0).trans rfl) rfl (blk_lt st2.hR) (by have := HI.out; omega) (fun z3 v3 hown3 hg3 hat3 => ⟨?_, no 17 ?_⟩) rn Tryz.underlying57 info9_ rfl (by decide))
     ·have st3 := MetaSt.appK st2 ok2 sk2 hown3 hg3 hat3
      exact ⟨(hs2.1).grown hg3 (by have := HS.out; have := hs2.1.size; omega) (fun q hq => by have := own_base ok2 q hq; omega), (blk_cell st3.hF 0).trans rfl, (blk_cell st3.hF 1).trans rfl⟩
     ·have st3 := MetaSt.appK st2 ok2 sk2 hown3 hg3 hat3
      have hs3 : (fun w' => Below w.heap.size w w' ∧ w'.cell? ⟨wr.heap.size, 0, none⟩ = some (.string a) ∧ w'.cell? ⟨wr.heap.size, 1, none⟩ = some (.string b)) v3 := ⟨(hs2.1).grown hg3 (by have := HS.out; have := hs2.1.size; omega) (fun q hq => by have := own_base ok2 q hq; omega), (blk_cell st3.hF 0).trans rfl, (blk_cell st3.hF 1).trans rfl⟩
      have vne3 : some (v1.heap.size) ≠ u3.ownBlock := fun e => by
       obtain ⟨xk, okk, skk⟩ := HM.out.hk
       have := own_lt okk _ e.symm
       have := HS2.out
       omega
      have vx3 := grown_blk hg3 hg2 (fun e => vne3 e)
      obtain ⟨xk3, ok3, sk3⟩ := st3.hk
      obtain ⟨xv3, ov3, sv3⟩ := st3.hv
      refine rdy [9] (rax 9 22 1023 (w.heap.size + 1) (.tmp 18) (.tmp 21) 57 9 (.string ⟨#[]⟩) 16 u4 i xv3 ⟨v1.heap.size, 0, none⟩ (.string b) ov3 ((blk_cell vx3 0).trans rfl) rfl (blk_lt st3.hR) (by have := HI.out; omega) (fun z4 v4 hown4 hg4 hat4 => ⟨?_, no 22 ?_⟩) rn Tryz.underlying57 info9_ rfl (by decide))
      ·have st4 := MetaSt.appV st3 ov3 sv3 hown4 hg4 hat4
       exact ⟨(hs3.1).grown hg4 (by have := HS.out; have := hs3.1.size; omega) (fun q hq => by have := own_base ov3 q hq; omega), (blk_cell st4.hF 0).trans rfl, (blk_cell st4.hF 1).trans rfl⟩
      ·have st4 := MetaSt.appV st3 ov3 sv3 hown4 hg4 hat4
       have hs4 : (fun w' => Below w.heap.size w w' ∧ w'.cell? ⟨wr.heap.size, 0, none⟩ = some (.string a) ∧ w'.cell? ⟨wr.heap.size, 1, none⟩ = some (.string b)) v4 := ⟨(hs3.1).grown hg4 (by have := HS.out; have := hs3.1.size; omega) (fun q hq => by have := own_base ov3 q hq; omega), (blk_cell st4.hF 0).trans rfl, (blk_cell st4.hF 1).trans rfl⟩
       refine pu 10 3 2047 ?_
       refine pu 11 4 4095 ?_
       refine done_ (by kernel_rfl) ?_
       have HG := Aside0.mk (And.intro st4 hs4.1)
       clear hs0 st0 ok0 sk0 ov0 sv0 hz1 hg1 hs1 hb1 st1 ok1 sk1 ov1 sv1 kx2 hz2 hg2 hs2 hb2 st2 ok2 sk2 ov2 sv2 vx3 vne3 hown3 hg3 hat3 hs3 st3 ok3 sk3 ov3 sv3 hown4 hg4 hat4 hs4 st4 hk0
       go_wp2
       have h1 := hA.out.1
       go_roundg (ms.length - (i + 1))
       case measure => omega
       case rel => exact ⟨i + 1, by first | go_num | (rw [E1.out]), ⟨⟨by omega, HG.out.2, HG.out.1.hR, HG.out.1.hk, HG.out.1.hv, HG.out.1.ne⟩⟩⟩
   ·have st1 := MetaSt.below st0 hb1
    obtain ⟨xk1, ok1, sk1⟩ := st1.hk
    obtain ⟨xv1, ov1, sv1⟩ := st1.hv
    refine rdy [3] (rl 3 16 495 (.slice (some ⟨v1.heap.size, 0, none⟩) 1 1) (.cells #[.string a] 9 (0, 0)) hk0 hs1 (fun v2 hz2 hg2 hs2 hb2 => no 16 ?_) rn)
    ·have st2 := MetaSt.below st1 hb2
     have vx2 := blk_below hg1 hb2
     obtain ⟨xk2, ok2, sk2⟩ := st2.hk
     obtain ⟨xv2, ov2, sv2⟩ := st2.hv
     refine rdy [4] (rax 4 17 511 (w.heap.size + 1) (.tmp 13) (.tmp 16) 57 9 (.string ⟨#[]⟩) 16 u3 i xk2 ⟨v1.heap.size, 0, none⟩ (.string a) ok2 ((blk_cell hg2 0).trans rfl) rfl (blk_lt st2.hR) (by have := HI.out; omega) (fun z3 v3 hown3 hg3 hat3 => ⟨?_, no 17 ?_⟩) rn Tryz.underlying57 info9_ rfl (by decide))
     ·have st3 := MetaSt.appK st2 ok2 sk2 hown3 hg3 hat3
      exact ⟨(hs2.1).grown hg3 (by have := HS.out; have := hs2.1.size; omega) (fun q hq => by have := own_base ok2 q hq; omega), (blk_cell st3.hF 0).trans rfl, (blk_cell st3.hF 1).trans rfl⟩
     ·have st3 := MetaSt.appK st2 ok2 sk2 hown3 hg3 hat3
      have hs3 : (fun w' => Below w.heap.size w w' ∧ w'.cell? ⟨wr.heap.size, 0, none⟩ = some (.string a) ∧ w'.cell? ⟨wr.heap.size, 1, none⟩ = some (.string b)) v3 := ⟨(hs2.1).grown hg3 (by have := HS.out; have := hs2.1.size; omega) (fun q hq => by have := own_base ok2 q hq; omega), (blk_cell st3.hF 0).trans rfl, (blk_cell st3.hF 1).trans rfl⟩
      have vne3 : some (v0.heap.size) ≠ u3.ownBlock := fun e => by
       obtain ⟨xk, okk, skk⟩ := HM.out.hk
       have := own_lt okk _ e.symm
       have := HS2.out
       omega
      have vx3 := grown_blk hg3 vx2 (fun e => vne3 e)
      obtain ⟨xk3, ok3, sk3⟩ := st3.hk
      obtain ⟨xv3, ov3, sv3⟩ := st3.hv
      refine rdy [9] (rax 9 22 1023 (w.heap.size + 1) (.tmp 18) (.tmp 21) 57 9 (.string ⟨#[]⟩) 16 u4 i xv3 ⟨v0.heap.size, 0, none⟩ (.string b) ov3 ((blk_cell vx3 0).trans rfl) rfl (blk_lt st3.hR) (by have := HI.out; omega) (fun z4 v4 hown4 hg4 hat4 => ⟨?_, no 22 ?_⟩) rn Tryz.underlying57 info9_ rfl (by decide))
      ·have st4 := MetaSt.appV st3 ov3 sv3 hown4 hg4 hat4
       exact ⟨(hs3.1).grown hg4 (by have := HS.out; have := hs3.1.size; omega) (fun q hq => by have := own_base ov3 q hq; omega), (blk_cell st4.hF 0).trans rfl, (blk_cell st4.hF 1).trans rfl⟩
      ·have st4 := MetaSt.appV st3 ov3 sv3 hown4 hg4 hat4
       have hs4 : (fun w' => Below w.heap.size w w' ∧ w'.cell? ⟨wr.heap.size, 0, none⟩ = some (.string a) ∧ w'.cell? ⟨wr.heap.size, 1, none⟩ = some (.string b)) v4 := ⟨(hs3.1).grown hg4 (by have := HS.out; have := hs3.1.size; omega) (fun q hq => by have := own_base ov3 q hq; omega), (blk_cell st4.hF 0).trans rfl, (blk_cell st4.hF 1).trans rfl⟩
       refine pu 10 3 2047 ?_
       refine pu 11 4 4095 ?_
       refine done_ (by kernel_rfl) ?_
       have HG := Aside0.mk (And.intro st4 hs4.1)
       clear hs0 st0 ok0 sk0 ov0 sv0 hz1 hg1 hs1 hb1 st1 ok1 sk1 ov1 sv1 vx2 hz2 hg2 hs2 hb2 st2 ok2 sk2 ov2 sv2 vx3 vne3 hown3 hg3 hat3 hs3 st3 ok3 sk3 ov3 sv3 hown4 hg4 hat4 hs4 st4 hk0
       go_wp2
       have h1 := hA.out.1
       go_roundg (ms.length - (i + 1))
       case measure => omega
       case rel => exact ⟨i + 1, by first | go_num | (rw [E1.out]), ⟨⟨by omega, HG.out.2, HG.out.1.hR, HG.out.1.hk, HG.out.1.hv, HG.out.1.ne⟩⟩⟩
  ·have hd : decide ((i : Int) < (ms.length : Int)) = false := by simpa using hi
   obtain ⟨q1, q2, q3, ⟨xk, q4, q5⟩, ⟨xv, q6, q7⟩, q8⟩ := hA.out
   have hin : i = ms.length := by omega
   subst hin
   obtain ⟨K, ck, rfl, hK⟩ := str_of_own q4 q5
   obtain ⟨V, cv, rfl, hV⟩ := str_of_own q6 q7
   have HKV := Aside0.mk (And.intro hK hV)
   clear q1 q2 q3 q4 q5 q6 q7 q8 hK hV
   go_wp2_with (go_at_call 77; fail)
   refine (new77 ms.length K V ck cv HC.out.2 wr HKV.out.1 HKV.out.2).mono ?_
   rintro e w3 ⟨⟨K', k', V', v', rfl, hK', hV'⟩, hb3⟩
   have HR := Aside0.mk (And.intro (below_step hA.out.2.1 hb3) (blk_below hA.out.2.2.1 hb3))
   have HKV' := Aside0.mk (And.intro hK' hV')
   clear hb3 hK' hV'
   have z0 := (blk_cell HR.out.2 0).trans (show _ = some (.slice none 0 0 : Value) from rfl)
   have z1 := (blk_cell HR.out.2 1).trans (show _ = some (.slice none 0 0 : Value) from rfl)
   have f0 := blk_frozen HR.out.2 0
   have f1 := blk_frozen HR.out.2 1
   go_wp2
   have hmv : ∀ (A : Option Addr) (n : Nat), StrAt w3 A n → StrAt ((w3.setCell ⟨w.heap.size, 0, none⟩ (.slice K' ms.length k')).setCell ⟨w.heap.size, 1, none⟩ (.slice V' ms.length v')) A n := fun A n h => h.move (fun b cs hc => blk_other_ (blk_ne hc HR.out.2 (by decide)) (blk_other_ (blk_ne hc HR.out.2 (by decide)) hc))
   refine bodyPost_ret (v := .agg #[.slice K' ms.length k', .slice V' ms.length v']) (by simp [results, Tryz.results43, go_sem, z0, z1]) rfl ⟨⟨K', k', V', v', rfl, hmv _ _ HKV'.out.1, hmv _ _ HKV'.out.2⟩, ?_⟩
   exact (HR.out.1.setCell (p := ⟨w.heap.size, 0, none⟩) (Nat.le_refl _) _).setCell (p := ⟨w.heap.size, 1, none⟩) (Nat.le_refl _) _
end Go.Proofs.YteebgnhhjlgnjaaGreatDoor.V
