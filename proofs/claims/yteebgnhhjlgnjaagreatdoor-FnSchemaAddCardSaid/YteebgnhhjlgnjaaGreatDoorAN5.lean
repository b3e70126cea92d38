/- impl.arrowNested at unions. -/
import Derived.Test.YteebgnhhjlgnjaaGreatDoorMA
namespace Go.Proofs.YteebgnhhjlgnjaaGreatDoor.V
open Go.RowKit Go.Proofs.YteebgnhhjlgnjaaGreatDoorW.PrintWords Go.Proofs.YteebgnhhjlgnjaaGreatDoorW.PrintLast Go.Proofs.YteebgnhhjlgnjaaGreatDoorW.PrintMore
set_option maxHeartbeats 40000000
set_option maxRecDepth 100000
set_option linter.unusedVariables false
set_option linter.unusedSimpArgs false
theorem info170 : (Tryz.prog.info? 170).map (fun i => (i.zero, i.size, i.bytes)) = some (some (.int .i8 0), 1, 1) := by kernel_rfl
theorem i8_id (x : Int) (h0 : 0 ≤ x) (h1 : x ≤ 126) : IntKind.i8.wrap x = x := by
 simp [IntKind.wrap, IntKind.bits, IntKind.signed]; omega
theorem codes_of_R {W : World} {base : Nat} {ok : Nat → Prop} {v : Value} {l : List Int} (h : Kd.R (Kd.int .i8) 170 W base ok v l) :
 ∃ A c, v = .slice A l.length c ∧ l.length ≤ c ∧ CodesAt W A l ∧ (∀ ad, A = some ad → ad.block < W.heap.size) ∧ (0 < l.length → ∃ b arr, A = some ⟨b, 0, none⟩ ∧ base ≤ b ∧ W.heap[b]? = some (.cells arr 170 (0, 0)) ∧ ∀ (j : Nat) (x : Int), l[j]? = some x → arr[j]? = some (Value.int .i8 x)) := by
 have ho := Kd.own_of_R h
 rcases ho.2 with ⟨rfl, h1⟩ | ⟨g, cap, cur, rfl, hb, hg, hn, hm, hs, ht⟩
 ·exact ⟨none, 0, by rw [h1], by omega, fun hp => absurd hp (by omega), fun ad e => (by cases e), fun hp => absurd hp (by omega)⟩
 ·have key : ∀ (j : Nat) (x : Int), l[j]? = some x → cur[j]? = some (Value.int .i8 x) := fun j x hx => by
   have hj := (List.getElem?_eq_some_iff.1 hx).1
   have e := congrArg (fun z => z[j]?) ht
   simp only [Nat.mul_one, List.getElem?_take, hj, if_true, Array.getElem?_toList] at e
   rw [e, encs, List.getElem?_map, hx]
   rfl
  refine ⟨_, cap, rfl, hn, fun _ => ⟨_, rfl, fun j hj => ?_⟩, fun ad e => (by cases e; exact blk_lt hg), fun _ => ⟨g, cur, rfl, hb, hg, key⟩⟩
  rw [add_plain, blk_cell hg]
  exact key j _ (List.getElem?_eq_getElem hj)
theorem int_at {w : World} {A : Option Addr} {l : List Int} (h : Kd.C (Kd.int .i64) w A l.length l) (i : Nat) (hi : i < l.length) : ∃ ad, A = some ad ∧ w.cell? (ad.add i) = some (.int .i64 l[i]) := by
 obtain ⟨ad, e, hc⟩ := (Kd.reads_of_C (d := (0 : Int)) h).2.2 (by omega)
 refine ⟨ad, e, ?_⟩
 rw [hc i hi, List.getD_eq_getElem?_getD, List.getElem?_eq_getElem hi]
 rfl
theorem nest_union0 (fs : List S30) (ds : List DF) (ids : List Int) (h0 : 0 < ds.length) (hl : fs.length ≤ 100) (hi : ids.length = ds.length) (hr : ∀ x ∈ ids, 0 ≤ x ∧ x ≤ 126) (hd : ids.Nodup) (A8 A9 : Option Addr) (c8 c9 : Nat) (w : World) (g8 : Kd.C (Kd.int .i64) w A8 ids.length ids) (g9 : Kd.C k30 w A9 (fs).length (fs)) (hF : All2 MakesF (fs) (ds)) :
 Calls Tryz.prog 64 #[.agg #[.int .i64 14, .int .i64 0, .bool false, .int .i64 0, .int .i64 0, .int .i64 0, .string emp, .bool false, .slice A8 ids.length c8, .slice A9 fs.length c9]] w (Made w (.union 224 ds ids)) := by
 have HS := Aside0.mk (And.intro h0 (And.intro hi (And.intro hr (And.intro hd g8))))
 have hcmp : ((ids.length : Int) == (ds.length : Int)) = true := by rw [hi]; simp
 clear h0 hi hr hd g8
 have hlen := hF.length
 have hn30 : (fs).length < 2 ^ 30 := by first | (simp; done) | omega
 have HH := Aside0.mk (And.intro g9 (And.intro hF hlen))
 clear g9 hF hlen
 go_enter Tryz.func64, Tryz.ntmps64
 go_wp2_with (go_at_call 45; fail)
 refine calls_at ?_
 intro w0 hw0
 obtain ⟨g9, hF, hlen⟩ := HH.out
 have b0 : Below w.heap.size w w0 := by rw [hw0]; exact b1_ (Below.refl _ _) _
 have x0 : w0.heap[w.heap.size]? = some (.cells #[.int .i64 14, .int .i64 0, .bool false, .int .i64 0, .int .i64 0, .int .i64 0, .string emp, .bool false, .slice A8 ids.length c8, .slice A9 fs.length c9] 28 (0, 0)) := by rw [hw0]; exact blk_new _ _
 clear hw0
 refine (fields45 (fs) (ds) hF A9 c9 w0 (Kd.C_below g9 b0) hn30).mono ?_
 rintro e w1 ⟨v, rfl, hR, hb⟩
 obtain ⟨A, c, rfl, hlc, hAb, hrow⟩ := row_of_R hR
 have b1 := below_step b0 hb
 have x1 := blk_below x0 hb
 have HA := Aside0.mk (And.intro b1 (And.intro x1 (And.intro hlc (And.intro hAb (And.intro hrow (And.intro b0.size hlen))))))
 clear g9 hF hlen b0 x0 hR hb hlc hAb hrow b1 x1
 go_wp2
 go_loopg [17] (ds).length (fun kq v17 wr => ∃ i : Nat, v17 = .int .i64 (i : Int) ∧ Aside0 (i + kq = (ds).length ∧ Below w1.heap.size w1 wr))
 case atStart => exact ⟨0, rfl, ⟨⟨by omega, Below.refl _ _⟩⟩⟩
 case round =>
  obtain ⟨i, rfl, hL⟩ := hrel
  by_cases hi : i < (ds).length
  ·have hd : decide ((i : Int) < ((ds).length : Int)) = true := by first | (simpa using hi) | (simp at hi ⊢; omega)
   have hd2 : decide ((i : Int) < (ds.length : Int)) = true := by first | exact hd | (simp at hi ⊢; omega)
   have hd3 : (i : Int) < (ds.length : Int) := by first | omega | (simp at hi ⊢; omega)
   obtain ⟨h1, h2, h3, h4, h5, h6⟩ := HA.out
   obtain ⟨b, arr, rfl, hb1, hb2, hb3, hb4⟩ := h5 (by omega)
   obtain ⟨ad, e, hr⟩ := rowAt_of hb2 hb3 hb4 (by omega)
   cases e
   obtain ⟨cs, hf, hcell⟩ := hr i hi
   generalize (ds)[i] = di at hf
   obtain ⟨nm, dt, nb⟩ := di
   obtain ⟨x, rfl, hx⟩ := hf
   obtain ⟨tq, ta, rfl⟩ := hx.form
   have hcl := fun j u hu => pw_cell_below hL.out.2 (hcell j u hu)
   have z0 : wr.cell? ⟨b, i * 5, none⟩ = some (.string nm) := by rw [← add_plain]; exact hcl 0 _ rfl
   have z1 : wr.cell? ⟨b, i * 5 + 1, none⟩ = some (.iface tq (.pointer (some ta))) := by rw [← add_plain]; exact hcl 1 _ rfl
   have z2 : wr.cell? ⟨b, i * 5 + 2, none⟩ = some (.bool nb) := by rw [← add_plain]; exact hcl 2 _ rfl
   have z3 : wr.cell? ⟨b, i * 5 + 3, none⟩ = some (.slice none 0 0) := by rw [← add_plain]; exact hcl 3 _ rfl
   have z4 : wr.cell? ⟨b, i * 5 + 4, none⟩ = some (.slice none 0 0) := by rw [← add_plain]; exact hcl 4 _ rfl
   have hd4 : (i : Int) ≤ 1073741824 := by first | (have := h6.2; omega) | (simp at hi; omega)
   clear h1 h2 h3 h4 h5 h6 hb1 hb2 hb3 hb4 hr hcell hcl hx
   go_wp2
   have l1 := hL.out.1
   go_roundg ((ds).length - (i + 1))
   case measure => omega
   case rel => exact ⟨i + 1, by go_num, ⟨⟨by omega, b1_ hL.out.2 _⟩⟩⟩
  ·have hd : decide ((i : Int) < ((ds).length : Int)) = false := by first | (simpa using hi) | (simp at hi ⊢; omega)
   have hd2 : decide ((i : Int) < (ds.length : Int)) = false := by first | exact hd | (simp at hi ⊢; omega)
   obtain ⟨h1, h2, h3, h4, h5, h6⟩ := HA.out
   have k1 := blk_below h2 hL.out.2
   have q0 := (blk_cell k1 0).trans (show _ = some (.int .i64 14 : Value) from rfl)
   have q1 := (blk_cell k1 1).trans (show _ = some (.int .i64 0 : Value) from rfl)
   have q2 := (blk_cell k1 2).trans (show _ = some (.bool false : Value) from rfl)
   have q3 := (blk_cell k1 3).trans (show _ = some (.int .i64 0 : Value) from rfl)
   have q4 := (blk_cell k1 4).trans (show _ = some (.int .i64 0 : Value) from rfl)
   have q5 := (blk_cell k1 5).trans (show _ = some (.int .i64 0 : Value) from rfl)
   have q6 := (blk_cell k1 6).trans (show _ = some (.string emp : Value) from rfl)
   have q7 := (blk_cell k1 7).trans (show _ = some (.bool false : Value) from rfl)
   have q8 := (blk_cell k1 8).trans (show _ = some (.slice A8 ids.length c8 : Value) from rfl)
   have q9 := (blk_cell k1 9).trans (show _ = some (.slice A9 fs.length c9 : Value) from rfl)
   have B1 := below_step h1 hL.out.2
   have HE := Aside0.mk (And.intro B1 (And.intro hL.out.2 (And.intro h3 (And.intro h4 (And.intro h5 h6)))))
   clear h1 h2 h3 h4 h5 h6 k1 B1
   go_wp2
   obtain ⟨wA, rfl⟩ : ∃ x, x = wr := ⟨_, rfl⟩
   go_loopg [6, 47] ids.length (fun kq v6 v47 w2 => ∃ i : Nat, v47 = .int .i64 (i : Int) ∧ Aside0 (i + kq = ids.length ∧ Below wA.heap.size wA w2 ∧ Kd.R (Kd.int .i8) 170 w2 wA.heap.size (fun _ => True) v6 (ids.take i)))
   case atStart => exact ⟨0, rfl, ⟨⟨by omega, Below.refl _ _, Kd.R_nil _ _ _ _ _⟩⟩⟩
   case round =>
    obtain ⟨m, rfl, hM⟩ := hrel
    by_cases hm : m < ids.length
    ·have hdm : decide ((m : Int) < (ids.length : Int)) = true := by simpa using hm
     obtain ⟨g0, g1, g2, g3, g8⟩ := HS.out
     obtain ⟨m1, m2, m3⟩ := hM.out
     obtain ⟨ad, rfl, hc⟩ := int_at (Kd.C_below g8 (below_step HE.out.1 m2)) m hm
     have hx := g2 _ (List.getElem_mem hm)
     generalize hxx : ids[m] = x at hc hx
     have e8 : IntKind.i8.wrap x = x := i8_id x hx.1 hx.2
     have hm4 : (m : Int) ≤ 1073741824 := by have := HE.out.2.2.2.2.2.2; omega
     have htk : ids.take (m + 1) = ids.take m ++ [x] := by rw [List.take_succ_eq_append_getElem hm, hxx]
     have hlt : (ids.take m).length ≤ m := List.length_take_le _ _
     have HT := Aside0.mk (And.intro htk hlt)
     clear g0 g1 g2 g3 g8 m1 m2 m3 hxx htk hlt
     go_wp2_with ((with_reducible refine gate_builtin (b := .append) (xs := #[.tmp 51, .tmp 54]) rfl ?_); at_builtin; refine Kd.R_append (Kd.int .i8) (w0 := wA) wA.heap.size rfl (.tmp 51) (.tmp 54) 175 170 _ 1 rfl Tryz.underlying175 info170 rfl (by decide) (by decide) u6 (ids.take m) x [.int .i8 x] (fun _ => True) (fun _ => False) rfl rfl ?aP ?aK ?aF ?aO ?aB ?aS ?aL ?_; (case aP => exact rfl); (case aK => exact fun k hk => hk.elim); (case aF => exact fun _ _ => trivial); (case aO => exact hM.out.2.2); (case aB => exact hM.out.2.1); (case aS => exact hM.out.2.1.size); (case aL => have := HT.out.2; omega); intro v1 w2 hr2 hb2 hg2 hat2; have HG := Aside0.mk (And.intro hr2 hb2); clear hr2 hb2 hg2 hat2)
     have m1 := hM.out.1
     go_roundg (ids.length - (m + 1))
     case measure => omega
     case rel =>
      refine ⟨m + 1, by go_num, ⟨⟨by omega, HG.out.2, ?_⟩⟩⟩
      rw [HT.out.1]
      exact HG.out.1
    ·have hdm : decide ((m : Int) < (ids.length : Int)) = false := by simpa using hm
     obtain ⟨g0, g1, g2, g3, g8⟩ := HS.out
     obtain ⟨m1, m2, m3⟩ := hM.out
     rw [List.take_of_length_le (by omega)] at m3
     obtain ⟨A', c', rfl, hlc, hco, hAb, hrow⟩ := codes_of_R m3
     have q3' := pw_cell_below m2 q3
     have HN := Aside0.mk (And.intro m2 (And.intro hlc (And.intro hco (And.intro hAb hrow))))
     clear m1 m2 m3 hlc hco hAb hrow g0 g2 g3 g8 q0 q1 q2 q3 q4 q5 q6 q7 q8 q9 hcmp
     obtain ⟨n, hn⟩ : ∃ n, n = ds.length := ⟨_, rfl⟩
     have hdn : ¬ m < n := by rw [hn, ← g1]; exact hm
     rw [g1, ← hn]
     have HD := Aside0.mk (And.intro g1 hn)
     clear g1 hn hdm
     go_wp2_with (go_at_call 86; fail)
     refine (union86 A A' n c c' ids wr (HD.out.1.trans HD.out.2.symm) (by have := HE.out.2.2.2.2.2.2; have := HD.out.2; omega) HN.out.2.2.1 HN.out.2.2.2.1 HS.out.2.2.1 HS.out.2.2.2.1).mono ?_
     rintro e w5 ⟨g, rfl, hg1, hg2, hg3⟩
     have HG := Aside0.mk (And.intro hg1 (And.intro hg2 hg3))
     clear hg1 hg2 hg3
     go_wp2
     go_ret
     obtain ⟨B1, hL2, hlc, hAb, hrow, hz, hfl⟩ := HE.out
     obtain ⟨m2, hlc', hco, hAb', hrow'⟩ := HN.out
     obtain ⟨hg1, hg2, hg3⟩ := HG.out
     obtain ⟨hd1, hd2⟩ := HD.out
     have B2 := below_step B1 m2
     have z1 := B1.size
     have z2 := m2.size
     have B3 := below_step B2 hg3
     have up : Below w1.heap.size w1 w5 := below_step (below_step hL2 m2) hg3
     refine ⟨_, rfl, ⟨by decide, g, A, c, A', c', rfl, by omega, ?_, hlc, by omega, by omega, by omega, fun hp => ?_, fun hp => ?_⟩, B3⟩
     ·rw [hg2, hd1, ← hd2]
      rfl
     ·obtain ⟨b, arr, rfl, hb1, hb2, hb3, hb4⟩ := hrow hp
      exact ⟨b, arr, rfl, Nat.le_trans hz hb1, blk_below hb2 up, dfs_of_row ds arr.toList (by simpa using hb3) (fun j hj => DFIn.step (fun k q cells hk hl _ hc => ⟨(up.block k hl).trans hc, Nat.le_trans hz hk⟩) (hb4 j hj))⟩
     ·obtain ⟨b, arr, rfl, hb1, hb2, hb3⟩ := hrow' hp
      exact ⟨b, arr, rfl, by omega, blk_below hb2 hg3, hb3⟩
theorem nest_union1 (fs : List S30) (ds : List DF) (ids : List Int) (h0 : 0 < ds.length) (hl : fs.length ≤ 100) (hi : ids.length = ds.length) (hr : ∀ x ∈ ids, 0 ≤ x ∧ x ≤ 126) (hd : ids.Nodup) (A8 A9 : Option Addr) (c8 c9 : Nat) (w : World) (g8 : Kd.C (Kd.int .i64) w A8 ids.length ids) (g9 : Kd.C k30 w A9 (fs).length (fs)) (hF : All2 MakesF (fs) (ds)) :
 Calls Tryz.prog 64 #[.agg #[.int .i64 14, .int .i64 0, .bool false, .int .i64 1, .int .i64 0, .int .i64 0, .string emp, .bool false, .slice A8 ids.length c8, .slice A9 fs.length c9]] w (Made w (.union 226 ds ids)) := by
 have HS := Aside0.mk (And.intro h0 (And.intro hi (And.intro hr (And.intro hd g8))))
 have hcmp : ((ids.length : Int) == (ds.length : Int)) = true := by rw [hi]; simp
 clear h0 hi hr hd g8
 have hlen := hF.length
 have hn30 : (fs).length < 2 ^ 30 := by first | (simp; done) | omega
 have HH := Aside0.mk (And.intro g9 (And.intro hF hlen))
 clear g9 hF hlen
 go_enter Tryz.func64, Tryz.ntmps64
 go_wp2_with (go_at_call 45; fail)
 refine calls_at ?_
 intro w0 hw0
 obtain ⟨g9, hF, hlen⟩ := HH.out
 have b0 : Below w.heap.size w w0 := by rw [hw0]; exact b1_ (Below.refl _ _) _
 have x0 : w0.heap[w.heap.size]? = some (.cells #[.int .i64 14, .int .i64 0, .bool false, .int .i64 1, .int .i64 0, .int .i64 0, .string emp, .bool false, .slice A8 ids.length c8, .slice A9 fs.length c9] 28 (0, 0)) := by rw [hw0]; exact blk_new _ _
 clear hw0
 refine (fields45 (fs) (ds) hF A9 c9 w0 (Kd.C_below g9 b0) hn30).mono ?_
 rintro e w1 ⟨v, rfl, hR, hb⟩
 obtain ⟨A, c, rfl, hlc, hAb, hrow⟩ := row_of_R hR
 have b1 := below_step b0 hb
 have x1 := blk_below x0 hb
 have HA := Aside0.mk (And.intro b1 (And.intro x1 (And.intro hlc (And.intro hAb (And.intro hrow (And.intro b0.size hlen))))))
 clear g9 hF hlen b0 x0 hR hb hlc hAb hrow b1 x1
 go_wp2
 go_loopg [17] (ds).length (fun kq v17 wr => ∃ i : Nat, v17 = .int .i64 (i : Int) ∧ Aside0 (i + kq = (ds).length ∧ Below w1.heap.size w1 wr))
 case atStart => exact ⟨0, rfl, ⟨⟨by omega, Below.refl _ _⟩⟩⟩
 case round =>
  obtain ⟨i, rfl, hL⟩ := hrel
  by_cases hi : i < (ds).length
  ·have hd : decide ((i : Int) < ((ds).length : Int)) = true := by first | (simpa using hi) | (simp at hi ⊢; omega)
   have hd2 : decide ((i : Int) < (ds.length : Int)) = true := by first | exact hd | (simp at hi ⊢; omega)
   have hd3 : (i : Int) < (ds.length : Int) := by first | omega | (simp at hi ⊢; omega)
   obtain ⟨h1, h2, h3, h4, h5, h6⟩ := HA.out
   obtain ⟨b, arr, rfl, hb1, hb2, hb3, hb4⟩ := h5 (by omega)
   obtain ⟨ad, e, hr⟩ := rowAt_of hb2 hb3 hb4 (by omega)
   cases e
   obtain ⟨cs, hf, hcell⟩ := hr i hi
   generalize (ds)[i] = di at hf
   obtain ⟨nm, dt, nb⟩ := di
   obtain ⟨x, rfl, hx⟩ := hf
   obtain ⟨tq, ta, rfl⟩ := hx.form
   have hcl := fun j u hu => pw_cell_below hL.out.2 (hcell j u hu)
   have z0 : wr.cell? ⟨b, i * 5, none⟩ = some (.string nm) := by rw [← add_plain]; exact hcl 0 _ rfl
   have z1 : wr.cell? ⟨b, i * 5 + 1, none⟩ = some (.iface tq (.pointer (some ta))) := by rw [← add_plain]; exact hcl 1 _ rfl
   have z2 : wr.cell? ⟨b, i * 5 + 2, none⟩ = some (.bool nb) := by rw [← add_plain]; exact hcl 2 _ rfl
   have z3 : wr.cell? ⟨b, i * 5 + 3, none⟩ = some (.slice none 0 0) := by rw [← add_plain]; exact hcl 3 _ rfl
   have z4 : wr.cell? ⟨b, i * 5 + 4, none⟩ = some (.slice none 0 0) := by rw [← add_plain]; exact hcl 4 _ rfl
   have hd4 : (i : Int) ≤ 1073741824 := by first | (have := h6.2; omega) | (simp at hi; omega)
   clear h1 h2 h3 h4 h5 h6 hb1 hb2 hb3 hb4 hr hcell hcl hx
   go_wp2
   have l1 := hL.out.1
   go_roundg ((ds).length - (i + 1))
   case measure => omega
   case rel => exact ⟨i + 1, by go_num, ⟨⟨by omega, b1_ hL.out.2 _⟩⟩⟩
  ·have hd : decide ((i : Int) < ((ds).length : Int)) = false := by first | (simpa using hi) | (simp at hi ⊢; omega)
   have hd2 : decide ((i : Int) < (ds.length : Int)) = false := by first | exact hd | (simp at hi ⊢; omega)
   obtain ⟨h1, h2, h3, h4, h5, h6⟩ := HA.out
   have k1 := blk_below h2 hL.out.2
   have q0 := (blk_cell k1 0).trans (show _ = some (.int .i64 14 : Value) from rfl)
   have q1 := (blk_cell k1 1).trans (show _ = some (.int .i64 0 : Value) from rfl)
   have q2 := (blk_cell k1 2).trans (show _ = some (.bool false : Value) from rfl)
   have q3 := (blk_cell k1 3).trans (show _ = some (.int .i64 1 : Value) from rfl)
   have q4 := (blk_cell k1 4).trans (show _ = some (.int .i64 0 : Value) from rfl)
   have q5 := (blk_cell k1 5).trans (show _ = some (.int .i64 0 : Value) from rfl)
   have q6 := (blk_cell k1 6).trans (show _ = some (.string emp : Value) from rfl)
   have q7 := (blk_cell k1 7).trans (show _ = some (.bool false : Value) from rfl)
   have q8 := (blk_cell k1 8).trans (show _ = some (.slice A8 ids.length c8 : Value) from rfl)
   have q9 := (blk_cell k1 9).trans (show _ = some (.slice A9 fs.length c9 : Value) from rfl)
   have B1 := below_step h1 hL.out.2
   have HE := Aside0.mk (And.intro B1 (And.intro hL.out.2 (And.intro h3 (And.intro h4 (And.intro h5 h6)))))
   clear h1 h2 h3 h4 h5 h6 k1 B1
   go_wp2
   obtain ⟨wA, rfl⟩ : ∃ x, x = wr := ⟨_, rfl⟩
   go_loopg [6, 47] ids.length (fun kq v6 v47 w2 => ∃ i : Nat, v47 = .int .i64 (i : Int) ∧ Aside0 (i + kq = ids.length ∧ Below wA.heap.size wA w2 ∧ Kd.R (Kd.int .i8) 170 w2 wA.heap.size (fun _ => True) v6 (ids.take i)))
   case atStart => exact ⟨0, rfl, ⟨⟨by omega, Below.refl _ _, Kd.R_nil _ _ _ _ _⟩⟩⟩
   case round =>
    obtain ⟨m, rfl, hM⟩ := hrel
    by_cases hm : m < ids.length
    ·have hdm : decide ((m : Int) < (ids.length : Int)) = true := by simpa using hm
     obtain ⟨g0, g1, g2, g3, g8⟩ := HS.out
     obtain ⟨m1, m2, m3⟩ := hM.out
     obtain ⟨ad, rfl, hc⟩ := int_at (Kd.C_below g8 (below_step HE.out.1 m2)) m hm
     have hx := g2 _ (List.getElem_mem hm)
     generalize hxx : ids[m] = x at hc hx
     have e8 : IntKind.i8.wrap x = x := i8_id x hx.1 hx.2
     have hm4 : (m : Int) ≤ 1073741824 := by have := HE.out.2.2.2.2.2.2; omega
     have htk : ids.take (m + 1) = ids.take m ++ [x] := by rw [List.take_succ_eq_append_getElem hm, hxx]
     have hlt : (ids.take m).length ≤ m := List.length_take_le _ _
     have HT := Aside0.mk (And.intro htk hlt)
     clear g0 g1 g2 g3 g8 m1 m2 m3 hxx htk hlt
     go_wp2_with ((with_reducible refine gate_builtin (b := .append) (xs := #[.tmp 51, .tmp 54]) rfl ?_); at_builtin; refine Kd.R_append (Kd.int .i8) (w0 := wA) wA.heap.size rfl (.tmp 51) (.tmp 54) 175 170 _ 1 rfl Tryz.underlying175 info170 rfl (by decide) (by decide) u6 (ids.take m) x [.int .i8 x] (fun _ => True) (fun _ => False) rfl rfl ?aP ?aK ?aF ?aO ?aB ?aS ?aL ?_; (case aP => exact rfl); (case aK => exact fun k hk => hk.elim); (case aF => exact fun _ _ => trivial); (case aO => exact hM.out.2.2); (case aB => exact hM.out.2.1); (case aS => exact hM.out.2.1.size); (case aL => have := HT.out.2; omega); intro v1 w2 hr2 hb2 hg2 hat2; have HG := Aside0.mk (And.intro hr2 hb2); clear hr2 hb2 hg2 hat2)
     have m1 := hM.out.1
     go_roundg (ids.length - (m + 1))
     case measure => omega
     case rel =>
      refine ⟨m + 1, by go_num, ⟨⟨by omega, HG.out.2, ?_⟩⟩⟩
      rw [HT.out.1]
      exact HG.out.1
    ·have hdm : decide ((m : Int) < (ids.length : Int)) = false := by simpa using hm
     obtain ⟨g0, g1, g2, g3, g8⟩ := HS.out
     obtain ⟨m1, m2, m3⟩ := hM.out
     rw [List.take_of_length_le (by omega)] at m3
     obtain ⟨A', c', rfl, hlc, hco, hAb, hrow⟩ := codes_of_R m3
     have q3' := pw_cell_below m2 q3
     have HN := Aside0.mk (And.intro m2 (And.intro hlc (And.intro hco (And.intro hAb hrow))))
     clear m1 m2 m3 hlc hco hAb hrow g0 g2 g3 g8 q0 q1 q2 q3 q4 q5 q6 q7 q8 q9 hcmp
     obtain ⟨n, hn⟩ : ∃ n, n = ds.length := ⟨_, rfl⟩
     have hdn : ¬ m < n := by rw [hn, ← g1]; exact hm
     rw [g1, ← hn]
     have HD := Aside0.mk (And.intro g1 hn)
     clear g1 hn hdm
     go_wp2_with (go_at_call 87; fail)
     refine (union87 A A' n c c' ids wr (HD.out.1.trans HD.out.2.symm) (by have := HE.out.2.2.2.2.2.2; have := HD.out.2; omega) HN.out.2.2.1 HN.out.2.2.2.1 HS.out.2.2.1 HS.out.2.2.2.1).mono ?_
     rintro e w5 ⟨g, rfl, hg1, hg2, hg3⟩
     have HG := Aside0.mk (And.intro hg1 (And.intro hg2 hg3))
     clear hg1 hg2 hg3
     go_wp2
     go_ret
     obtain ⟨B1, hL2, hlc, hAb, hrow, hz, hfl⟩ := HE.out
     obtain ⟨m2, hlc', hco, hAb', hrow'⟩ := HN.out
     obtain ⟨hg1, hg2, hg3⟩ := HG.out
     obtain ⟨hd1, hd2⟩ := HD.out
     have B2 := below_step B1 m2
     have z1 := B1.size
     have z2 := m2.size
     have B3 := below_step B2 hg3
     have up : Below w1.heap.size w1 w5 := below_step (below_step hL2 m2) hg3
     refine ⟨_, rfl, ⟨by decide, g, A, c, A', c', rfl, by omega, ?_, hlc, by omega, by omega, by omega, fun hp => ?_, fun hp => ?_⟩, B3⟩
     ·rw [hg2, hd1, ← hd2]
      rfl
     ·obtain ⟨b, arr, rfl, hb1, hb2, hb3, hb4⟩ := hrow hp
      exact ⟨b, arr, rfl, Nat.le_trans hz hb1, blk_below hb2 up, dfs_of_row ds arr.toList (by simpa using hb3) (fun j hj => DFIn.step (fun k q cells hk hl _ hc => ⟨(up.block k hl).trans hc, Nat.le_trans hz hk⟩) (hb4 j hj))⟩
     ·obtain ⟨b, arr, rfl, hb1, hb2, hb3⟩ := hrow' hp
      exact ⟨b, arr, rfl, by omega, blk_below hb2 hg3, hb3⟩
end Go.Proofs.YteebgnhhjlgnjaaGreatDoor.V
