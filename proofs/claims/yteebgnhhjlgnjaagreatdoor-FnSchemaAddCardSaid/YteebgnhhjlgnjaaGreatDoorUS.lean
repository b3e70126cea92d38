/- spec.Usual. -/
import Derived.Test.YteebgnhhjlgnjaaGreatDoorWF
import Derived.Test.YteebgnhhjlgnjaaGreatDoorSL
namespace Go.Proofs.YteebgnhhjlgnjaaGreatDoor.V
open Go.RowKit Go.Proofs.YteebgnhhjlgnjaaGreatDoorW.PrintWords Go.Proofs.YteebgnhhjlgnjaaGreatDoorW.PrintLast Go.Proofs.YteebgnhhjlgnjaaGreatDoorW.PrintMore
set_option maxHeartbeats 40000000
set_option maxRecDepth 100000
set_option linter.unusedVariables false
set_option linter.unusedSimpArgs false
theorem neq57_nil (w : World) : (Go.binOp BinOp.neq 57 (.slice none 0 0) (.slice none 0 0)).run Tryz.prog w = .ok (.bool false) w := by
 first | kernel_rfl | (simp [Go.binOp]; done) | rfl
theorem neq57_some (w : World) (a : Addr) (n c : Nat) : (Go.binOp BinOp.neq 57 (.slice (some a) n c) (.slice none 0 0)).run Tryz.prog w = .ok (.bool true) w := by
 first | kernel_rfl | (simp [Go.binOp]; done) | rfl
theorem wl_insert_lit {ops : Array Oper} {rest : List Oper} {o : Oper} {a : Act} {wk : World} {Q : Exit → Act → World → Prop} (names : List ByteArray) (hg : o.guard = none) (m x v : Operand) (hop : o.op = Op.insert 100 m x v) (b : Nat) (hm : a.eval m = .map (some b)) (k : Int) (hx : a.eval x = .int .i64 k) (n : Nat) (hv : a.eval v = .slice (some ⟨wk.heap.size, 0, none⟩) n n) (cs : Array Value) (hn : n = names.length) (hcs : cs = (names.map Value.string).toArray) (l : List NRow) (hM : MapIs wk b l) (hk : found l k = none)
 (h : ∀ w', MapIs w' b (l ++ [⟨k, wk.heap.size, names⟩]) → wk.grownBy w' (some b) → wpList Tryz.prog ops Q rest (a.put o.dst undef) w') : wpList Tryz.prog ops Q (o :: rest) a (wk.alloc (.cells cs 9 (0, 0))) := by
 subst hn hcs
 have h0 : (⟨k, wk.heap.size, names⟩ : NRow).at (wk.alloc (.cells (names.map Value.string).toArray 9 (0, 0))) := blk_new _ _
 obtain ⟨w', hrun, hm', hg', _⟩ := (hM.below (Below.alloc (Below.refl _ _) (Nat.le_refl _) _)).put ⟨k, wk.heap.size, names⟩ hk h0
 refine wl_insert hg m x v 100 hop _ _ _ hm hx hv w' hrun (h w' hm' ?_)
 exact World.grownBy.trans (World.grownBy_alloc wk _ _) hg'
def WantAt (w : World) (k : Int) (v : Value) : Prop := (wantN k = [] ∧ v = .slice none 0 0) ∨ (wantN k ≠ [] ∧ ∃ g, v = .slice (some ⟨g, 0, none⟩) (wantN k).length (wantN k).length ∧ w.heap[g]? = some (.cells ((wantN k).map Value.string).toArray 9 (0, 0)))
theorem WantAt.below {w w' : World} {k : Int} {v : Value} (h : WantAt w k v) (hb : Below w.heap.size w w') : WantAt w' k v := by
 rcases h with h | ⟨h0, g, h1, h2⟩
 ·exact .inl h
 ·exact .inr ⟨h0, g, h1, blk_below h2 hb⟩
theorem want_of {w : World} {b g1 g2 g3 g4 g5 g6 g7 g8 : Nat} (h : MapIs w b ([] ++ [⟨12, g1, [nmItem]⟩] ++ [⟨21, g2, [nmItem]⟩] ++ [⟨25, g3, [nmItem]⟩] ++ [⟨26, g4, [nmItem]⟩] ++ [⟨16, g5, [nmItem]⟩] ++ [⟨17, g6, [nmEntries]⟩] ++ [⟨22, g7, [nmRunEnds, nmValues]⟩] ++ [⟨27, g8, [emp, emp]⟩])) (k : Int) :
 ∃ v, (Instr.lookup 100 (.map (some b)) (.int .i64 k) false).run Tryz.prog w = .ok v w ∧ WantAt w k v := by
 have hl := h.look k
 have key : ∀ (p : NRow), found ([] ++ [⟨12, g1, [nmItem]⟩] ++ [⟨21, g2, [nmItem]⟩] ++ [⟨25, g3, [nmItem]⟩] ++ [⟨26, g4, [nmItem]⟩] ++ [⟨16, g5, [nmItem]⟩] ++ [⟨17, g6, [nmEntries]⟩] ++ [⟨22, g7, [nmRunEnds, nmValues]⟩] ++ [⟨27, g8, [emp, emp]⟩]) k = some p → p.names = wantN k → wantN k ≠ [] → ∃ v, (Instr.lookup 100 (.map (some b)) (.int .i64 k) false).run Tryz.prog w = .ok v w ∧ WantAt w k v := by
  intro p hp hn h0
  rw [hp] at hl
  refine ⟨_, hl, .inr ⟨h0, p.g, ?_, ?_⟩⟩
  ·show p.val = _
   unfold NRow.val
   rw [hn]
  ·have := h.2 p (List.mem_of_find?_eq_some hp)
   unfold NRow.at at this
   rwa [hn] at this
 by_cases h1 : k = 12; · subst h1; exact key _ rfl rfl (by decide)
 by_cases h2 : k = 21; · subst h2; exact key _ rfl rfl (by decide)
 by_cases h3 : k = 25; · subst h3; exact key _ rfl rfl (by decide)
 by_cases h4 : k = 26; · subst h4; exact key _ rfl rfl (by decide)
 by_cases h5 : k = 16; · subst h5; exact key _ rfl rfl (by decide)
 by_cases h6 : k = 17; · subst h6; exact key _ rfl rfl (by decide)
 by_cases h7 : k = 22; · subst h7; exact key _ rfl rfl (by decide)
 by_cases h8 : k = 27; · subst h8; exact key _ rfl rfl (by decide)
 have hf : found ([] ++ [⟨12, g1, [nmItem]⟩] ++ [⟨21, g2, [nmItem]⟩] ++ [⟨25, g3, [nmItem]⟩] ++ [⟨26, g4, [nmItem]⟩] ++ [⟨16, g5, [nmItem]⟩] ++ [⟨17, g6, [nmEntries]⟩] ++ [⟨22, g7, [nmRunEnds, nmValues]⟩] ++ [⟨27, g8, [emp, emp]⟩]) k = none := by
  rw [found, List.find?_eq_none]
  intro p hp
  simp only [List.nil_append, List.cons_append, List.mem_append, List.mem_cons, List.not_mem_nil, or_false, or_assoc] at hp
  rcases hp with rfl | rfl | rfl | rfl | rfl | rfl | rfl | rfl <;> simp <;> omega
 rw [hf] at hl
 exact ⟨_, hl, .inl ⟨by simp [wantN, h1, h2, h3, h4, h5, h6, h7, h8], rfl⟩⟩
theorem usual_head (n : Nat) (hU : ∀ m, n = m + 1 → UC m) (hE : ∀ m, n = m + 1 → EC m) : UC n := by
 intro T w A8 A9 c8 c9 hT hR hS g9
 have HC := Aside0.mk (And.intro g9 (And.intro hT (And.intro hR hS)))
 have HI := Aside0.mk (And.intro hU hE)
 clear g9 hT hR hS hU hE
 go_enter Tryz.func32, Tryz.ntmps32
 go_upto_region 1 with fail
 refine wp_at ?_
 intro w0 hw0
 have k0 : w0.heap[w.heap.size]? = some (.cells #[.int .i64 T.f0, .int .i64 T.f1, .bool T.f2, .int .i64 T.f3, .int .i64 T.f4, .int .i64 T.f5, .string T.f6, .bool T.f7, .slice A8 T.f8.length c8, .slice A9 T.f9.length c9] 28 (0, 0)) := by rw [hw0]; exact blk_new _ _
 have b0 : Below w.heap.size w w0 := by rw [hw0]; exact b1_ (Below.refl _ _) _
 have z0 : w0.heap.size = w.heap.size + 1 := by rw [hw0]; exact alloc_size_ _ _
 clear hw0
 have HZ := Aside0.mk z0
 refine wp_region_list _ rfl ?_
 try simp only [List.append_eq, List.cons_append, List.nil_append]
 refine wl_makeMap rfl 100 rfl ?_
 have HM := Aside0.mk (And.intro (MapIs.made w0) (And.intro (below_step b0 ((Below.refl _ _).alloc (Nat.le_refl _) (.map #[] 0))) (blk_alloc_ (p := .map #[] 0) k0)))
 generalize hw1 : w0.alloc (.map #[] 0) = w1 at HM ⊢
 clear hw1 k0 b0 z0
 simp only [Act.put, s1_, s2_, s3_]
 go_upto_region 2 with (first | (refine wl_insert_lit [⟨#[105, 116, 101, 109]⟩] rfl _ _ _ rfl _ rfl _ rfl _ rfl _ rfl rfl _ HM.out.1 rfl ?_; intro w2 hm2 hg2; have nM := Aside0.mk (And.intro hm2 (And.intro (HM.out.2.1.grown hg2 HM.out.2.1.size (fun k e => by have h1 := Option.some.inj e; have h2 := HZ.out; omega)) ((hg2.block _ (blk_lt HM.out.2.2) (fun e => by have h1 := Option.some.inj e; have h2 := HZ.out; omega)).trans HM.out.2.2))); clear HM hm2 hg2; have HM := nM; clear nM) | (refine wl_insert_lit [⟨#[101, 110, 116, 114, 105, 101, 115]⟩] rfl _ _ _ rfl _ rfl _ rfl _ rfl _ rfl rfl _ HM.out.1 rfl ?_; intro w2 hm2 hg2; have nM := Aside0.mk (And.intro hm2 (And.intro (HM.out.2.1.grown hg2 HM.out.2.1.size (fun k e => by have h1 := Option.some.inj e; have h2 := HZ.out; omega)) ((hg2.block _ (blk_lt HM.out.2.2) (fun e => by have h1 := Option.some.inj e; have h2 := HZ.out; omega)).trans HM.out.2.2))); clear HM hm2 hg2; have HM := nM; clear nM) | (refine wl_insert_lit [⟨#[114, 117, 110, 95, 101, 110, 100, 115]⟩, ⟨#[118, 97, 108, 117, 101, 115]⟩] rfl _ _ _ rfl _ rfl _ rfl _ rfl _ rfl rfl _ HM.out.1 rfl ?_; intro w2 hm2 hg2; have nM := Aside0.mk (And.intro hm2 (And.intro (HM.out.2.1.grown hg2 HM.out.2.1.size (fun k e => by have h1 := Option.some.inj e; have h2 := HZ.out; omega)) ((hg2.block _ (blk_lt HM.out.2.2) (fun e => by have h1 := Option.some.inj e; have h2 := HZ.out; omega)).trans HM.out.2.2))); clear HM hm2 hg2; have HM := nM; clear nM) | (refine wl_insert_lit [⟨#[]⟩, ⟨#[]⟩] rfl _ _ _ rfl _ rfl _ rfl _ rfl _ rfl rfl _ HM.out.1 rfl ?_; intro w2 hm2 hg2; have nM := Aside0.mk (And.intro hm2 (And.intro (HM.out.2.1.grown hg2 HM.out.2.1.size (fun k e => by have h1 := Option.some.inj e; have h2 := HZ.out; omega)) ((hg2.block _ (blk_lt HM.out.2.2) (fun e => by have h1 := Option.some.inj e; have h2 := HZ.out; omega)).trans HM.out.2.2))); clear HM hm2 hg2; have HM := nM; clear nM))
 obtain ⟨v, hl, hwant⟩ := want_of HM.out.1 T.f0
 have HWA := Aside0.mk hwant
 clear hwant
 obtain ⟨y0, y1, y2, y3, y4, y5, y6, y7, y8, y9⟩ := cb10 HM.out.2.2
 go_upto_region 3 with (first | (refine wl_lookup rfl _ _ 100 rfl _ _ _ rfl rfl _ hl ?_))
 have HL := Aside0.mk (And.intro HM.out.2.2 (And.intro HM.out.2.1 HWA.out))
 clear HM HWA hl HZ
 have hlen : T.f9.length ≤ 100 := HC.out.2.2.1.len
 have HN := Aside0.mk hlen
 clear hlen
 go_wp2
 clear y0 y1 y2 y3 y4 y5 y6 y7 y8 y9
 go_loopg [26] T.f9.length (fun kq v26 wr => ∃ i : Nat, v26 = .int .i64 (i : Int) ∧ Aside0 (i + kq = T.f9.length ∧ wr.heap[w.heap.size]? = some (.cells #[.int .i64 T.f0, .int .i64 T.f1, .bool T.f2, .int .i64 T.f3, .int .i64 T.f4, .int .i64 T.f5, .string T.f6, .bool T.f7, .slice A8 T.f8.length c8, .slice A9 T.f9.length c9] 28 (0, 0)) ∧ Below w.heap.size w wr ∧ WantAt wr T.f0 v ∧ ∀ (j : Nat) (hj : j < T.f9.length), j < i → FieldU T.f0 j T.f9[j] ∧ ChildU T.f0 (T.f9[j]).f2))
 case atStart => exact ⟨0, rfl, ⟨⟨by omega, HL.out.1, HL.out.2.1, HL.out.2.2, fun j hj h => absurd h (by omega)⟩⟩⟩
 case round =>
  obtain ⟨i, rfl, HR⟩ := hrel
  by_cases hi : i < T.f9.length
  ·have hd : decide ((i : Int) < (T.f9.length : Int)) = true := by simpa using hi
   obtain ⟨n', hn'⟩ : ∃ m, n = m + 1 := by
    cases n with
    | zero => exact HC.out.2.2.1.elim
    | succ m => exact ⟨m, rfl⟩
   have HN2 := Aside0.mk hn'
   clear hn'
   have hchild : RightP n' (T.f9[i]).f2 := by
    have h := HC.out.2.2.1
    rw [HN2.out] at h
    exact h.2.2 _ (List.getElem_mem hi)
   have e1 : IntKind.i64.wrap ((i : Int) + 1) = ((i + 1 : Nat) : Int) := by have := HN.out; rw [i64_w, w64_id _ (by omega) (by omega)]; omega
   have e1' : wrap64 ((i : Int) + 1) = ((i + 1 : Nat) : Int) := by have h := e1; rw [i64_w] at h; exact h
   have E1 := Aside0.mk (And.intro e1 e1')
   clear e1 e1'
   obtain ⟨h1, h2, h3, h4, h5⟩ := HR.out
   obtain ⟨y0, y1, y2, y3, y4, y5, y6, y7, y8, y9⟩ := cb10 h2
   obtain ⟨ad, cs, eA, hK, hcell⟩ := at30 (Kd.C_below HC.out.1 h3) i hi
   subst eA
   obtain ⟨A10, c10, A11, c11, A12, c12, hcs, l10, g10, l11, g11, l12, g12⟩ := k30_open hK
   obtain ⟨x0, x1, x2, x3, x4, x5, x6, x7, x8, x9, x10, x11, x12⟩ := fld13 hcell hcs
   have K2 := Aside0.mk (And.intro g11 hchild)
   clear l10 g10 l11 g11 l12 g12 hcs hcell hK h1 h2 h3 h4 h5 hchild
   go_upto_region 6 with fail
   clear x0 x1 x2 x3 x4 x5 x6 x7 x8 x9 x10 x11 x12
   clear y0 y1 y2 y3 y4 y5 y6 y7 y8 y9
   refine wp_at ?_
   intro w4 hw4
   obtain ⟨h1, h2, h3, h4, h5⟩ := HR.out
   have b4 : Below wr.heap.size wr w4 := by rw [hw4]; exact (Below.refl _ _).alloc (Nat.le_refl _) _
   have k4 : w4.heap[wr.heap.size]? = some (.cells #[.string T.f9[i].f0, .bool T.f9[i].f1, .int .i64 T.f9[i].f2.f0, .int .i64 T.f9[i].f2.f1, .bool T.f9[i].f2.f2, .int .i64 T.f9[i].f2.f3, .int .i64 T.f9[i].f2.f4, .int .i64 T.f9[i].f2.f5, .string T.f9[i].f2.f6, .bool T.f9[i].f2.f7, .slice A10 T.f9[i].f2.f8.length c10, .slice A11 T.f9[i].f2.f9.length c11, .slice A12 T.f9[i].f3.length c12] 30 (0, 0)) := by rw [hw4]; exact blk_new _ _
   have b5 := below_step h3 b4
   have K4 := Aside0.mk (And.intro k4 (And.intro (blk_below h2 b4) (And.intro b5 (And.intro (h4.below b4) (Kd.C_below K2.out.1 b4)))))
   clear h1 h2 h3 h4 h5 b4 k4 b5 hw4
   obtain ⟨v0, v1, v2, v3, v4, v5, v6, v7, v8, v9, v10, v11, v12⟩ := cb13 K4.out.1
   obtain ⟨y0, y1, y2, y3, y4, y5, y6, y7, y8, y9⟩ := cb10 K4.out.2.1
   go_cut [7] (fun v7 wc => ∃ b, v7 = .bool b ∧ Aside0 ((b = true → ChildU T.f0 (T.f9[i]).f2) ∧ Below w4.heap.size w4 wc))
   case first =>
    by_cases h17 : T.f0 = 17
    ·have H17 := Aside0.mk h17
     rw [h17] at y0
     clear h17
     go_wp2_with (go_at_call 61; fail)
     refine (HI.out.2 n' HN2.out (T.f9[i]).f2 w4 A10 A11 c10 c11 (HC.out.2.1.step K4.out.2.2.1) K2.out.2 (HC.out.2.2.2.sub _ (List.getElem_mem hi)) (by have h := HC.out.2.2.1; rw [HN2.out] at h; exact h.two H17.out i hi) K4.out.2.2.2.2).mono ?_
     rintro e w5 ⟨⟨b, rfl, hb⟩, hb5⟩
     have KB := Aside0.mk (And.intro hb hb5)
     replace y0 := pw_cell_below hb5 y0
     clear hb hb5
     cases b with
     | false =>
      go_wp2
      go_meet
      case rel => exact ⟨false, rfl, ⟨⟨fun e => (by cases e), KB.out.2⟩⟩⟩
     | true =>
      go_wp2
      go_meet
      case rel => exact ⟨true, rfl, ⟨⟨fun _ => ⟨fun h => absurd H17.out h, fun _ => KB.out.1 (by first | rfl | trivial)⟩, KB.out.2⟩⟩⟩
    ·have H17 := Aside0.mk h17
     have q1 : decide (T.f0 = 17) = false := decide_eq_false h17
     have q2 : (T.f0 = 17) = False := eq_false h17
     have q3 : (T.f0 != 17) = true := by simpa using h17
     clear h17
     go_wp2_with (go_at_call 32; fail)
     refine (HI.out.1 n' HN2.out (T.f9[i]).f2 w4 A10 A11 c10 c11 (HC.out.2.1.step K4.out.2.2.1) K2.out.2 (HC.out.2.2.2.sub _ (List.getElem_mem hi)) K4.out.2.2.2.2).mono ?_
     rintro e w5 ⟨⟨b, rfl, hb⟩, hb5⟩
     have KB := Aside0.mk (And.intro hb hb5)
     clear hb hb5
     go_wp2
     go_meet
     case rel => exact ⟨b, rfl, ⟨⟨fun hb => ⟨fun _ => KB.out.1 hb, fun h => absurd h H17.out⟩, KB.out.2⟩⟩⟩
   case rest =>
    obtain ⟨b, rfl, HB⟩ := hcut
    have K5 := Aside0.mk (And.intro (blk_below K4.out.1 HB.out.2) (And.intro (blk_below K4.out.2.1 HB.out.2) (And.intro (below_step K4.out.2.2.1 HB.out.2) (K4.out.2.2.2.1.below HB.out.2))))
    clear v0 v1 v2 v3 v4 v5 v6 v7 v8 v9 v10 v11 v12
    clear y0 y1 y2 y3 y4 y5 y6 y7 y8 y9
    obtain ⟨v0, v1, v2, v3, v4, v5, v6, v7, v8, v9, v10, v11, v12⟩ := cb13 K5.out.1
    obtain ⟨y0, y1, y2, y3, y4, y5, y6, y7, y8, y9⟩ := cb10 K5.out.2.1
    by_cases p1 : 0 < T.f9[i].f3.length
    ·have q1 : decide (0 < T.f9[i].f3.length) = true := decide_eq_true p1
     have q1' : decide ((0 : Int) < (T.f9[i].f3.length : Int)) = true := decide_eq_true (by omega)
     have q1'' : ((0 : Int) < (T.f9[i].f3.length : Int)) = True := eq_true (by omega)
     clear p1
     go_wp2
     go_ret
     exact ⟨⟨false, rfl, fun e => (by cases e)⟩, K5.out.2.2.1⟩
    have q1 : decide (0 < T.f9[i].f3.length) = false := decide_eq_false p1
    have q1' : decide ((0 : Int) < (T.f9[i].f3.length : Int)) = false := decide_eq_false (by omega)
    have q1'' : ((0 : Int) < (T.f9[i].f3.length : Int)) = False := eq_false (by omega)
    have P1 := Aside0.mk p1
    clear p1
    cases b with
    | false =>
     go_wp2
     go_ret
     exact ⟨⟨false, rfl, fun e => (by cases e)⟩, K5.out.2.2.1⟩
    | true =>
    go_wp2_with (go_at_call 21; fail)
    refine (well21 (T.f9[i]).f0 wc (HC.out.2.2.2.name _ (List.getElem_mem hi)) (HC.out.2.1.step K5.out.2.2.1)).mono ?_
    rintro e w6 ⟨rfl, hb6⟩
    have K6 := Aside0.mk (And.intro (blk_below K5.out.1 hb6) (And.intro (blk_below K5.out.2.1 hb6) (And.intro (below_step K5.out.2.2.1 hb6) (K5.out.2.2.2.below hb6))))
    clear v0 v1 v2 v3 v4 v5 v6 v7 v8 v9 v10 v11 v12
    clear y0 y1 y2 y3 y4 y5 y6 y7 y8 y9
    clear hb6
    obtain ⟨v0, v1, v2, v3, v4, v5, v6, v7, v8, v9, v10, v11, v12⟩ := cb13 K6.out.1
    obtain ⟨y0, y1, y2, y3, y4, y5, y6, y7, y8, y9⟩ := cb10 K6.out.2.1
    generalize Lib.validD (T.f9[i]).f0.data.toList = vd
    cases vd with
    | false =>
     go_wp2
     go_ret
     exact ⟨⟨false, rfl, fun e => (by cases e)⟩, K6.out.2.2.1⟩
    | true =>
    by_cases p2 : 50 < T.f9[i].f0.size
    ·have q2 : decide (50 < T.f9[i].f0.size) = true := decide_eq_true p2
     have q2' : decide ((50 : Int) < (T.f9[i].f0.size : Int)) = true := decide_eq_true (by omega)
     have q2'' : ((50 : Int) < (T.f9[i].f0.size : Int)) = True := eq_true (by omega)
     clear p2
     go_wp2
     go_ret
     exact ⟨⟨false, rfl, fun e => (by cases e)⟩, K6.out.2.2.1⟩
    have q2 : decide (50 < T.f9[i].f0.size) = false := decide_eq_false p2
    have q2' : decide ((50 : Int) < (T.f9[i].f0.size : Int)) = false := decide_eq_false (by omega)
    have q2'' : ((50 : Int) < (T.f9[i].f0.size : Int)) = False := eq_false (by omega)
    have P2 := Aside0.mk p2
    clear p2
    have HWA := K6.out.2.2.2
    rcases HWA with ⟨hw0, hv⟩ | ⟨hw0, g, hv, hg⟩
    ·subst hv
     have HW := Aside0.mk hw0
     clear hw0
     go_upto_region 9 with fail
     have bq := neq57_nil w6.drew
     go_region
     clear bq
     have HNM := Aside0.mk (show wantN T.f0 ≠ [] → (wantN T.f0)[i]? = some (T.f9[i]).f0 from fun h => absurd HW.out h)
     go_upto_region 11 with fail
     refine wp_at ?_
     intro w7 hw7
     have K7 := Aside0.mk (show w7.heap[wr.heap.size]? = some (.cells #[.string T.f9[i].f0, .bool T.f9[i].f1, .int .i64 T.f9[i].f2.f0, .int .i64 T.f9[i].f2.f1, .bool T.f9[i].f2.f2, .int .i64 T.f9[i].f2.f3, .int .i64 T.f9[i].f2.f4, .int .i64 T.f9[i].f2.f5, .string T.f9[i].f2.f6, .bool T.f9[i].f2.f7, .slice A10 T.f9[i].f2.f8.length c10, .slice A11 T.f9[i].f2.f9.length c11, .slice A12 T.f9[i].f3.length c12] 30 (0, 0)) ∧ w7.heap[w.heap.size]? = some (.cells #[.int .i64 T.f0, .int .i64 T.f1, .bool T.f2, .int .i64 T.f3, .int .i64 T.f4, .int .i64 T.f5, .string T.f6, .bool T.f7, .slice A8 T.f8.length c8, .slice (some ad) T.f9.length c9] 28 (0, 0)) ∧ Below w.heap.size w w7 from by rw [hw7]; exact ⟨K6.out.1, K6.out.2.1, b3_ K6.out.2.2.1⟩)
     have KW := Aside0.mk (show WantAt w7 T.f0 _ from by rw [hw7]; exact K6.out.2.2.2.below (b3_ (Below.refl _ _)))
     clear hw7
     clear v0 v1 v2 v3 v4 v5 v6 v7 v8 v9 v10 v11 v12
     clear y0 y1 y2 y3 y4 y5 y6 y7 y8 y9
     obtain ⟨v0, v1, v2, v3, v4, v5, v6, v7, v8, v9, v10, v11, v12⟩ := cb13 K7.out.1
     obtain ⟨y0, y1, y2, y3, y4, y5, y6, y7, y8, y9⟩ := cb10 K7.out.2.1
     obtain ⟨x, hx⟩ : ∃ x : Int, x = (i : Int) := ⟨_, rfl⟩
     rw [← hx]
     have HX0 := Aside0.mk hx
     clear hx hd
     go_cut [5, 8, 26, 75] (fun v5 v8 v26 v75 wd => v5 = .int .i64 x ∧ v8 = .bool (fixedN T.f0 i) ∧ v26 = .int .i64 x ∧ v75 = undef ∧ Aside0 (Below w7.heap.size w7 wd))
     case first =>
      by_cases h17 : T.f0 = 17
      ·have hfx : fixedN T.f0 i = true := by simp [fixedN, h17]
       rw [h17] at y0
       have HFX := Aside0.mk hfx
       clear h17 hfx
       go_wp2
       go_meet
       case rel => exact ⟨(by first | rfl | rw [H0.out]), by first | (rw [HFX.out]; done) | (rw [HFX.out]; simp; done) | (rw [HFX.out]; simp [*]; done), (by first | rfl | rw [H0.out]), (by first | rfl | rw [H0.out]), ⟨Below.refl _ _⟩⟩
      ·by_cases h22 : T.f0 = 22
       ·by_cases h0 : x = 0
        ·have hfx : fixedN T.f0 i = true := by have := HX0.out; simp [fixedN, h22]; omega
         rw [h22] at y0
         have HFX := Aside0.mk hfx
         have H0 := Aside0.mk h0
         have q5 : x = 0 := h0
         clear h17 h22 h0 hfx
         go_wp2
         go_meet
         case rel => exact ⟨(by first | rfl | rw [H0.out]), by first | (rw [HFX.out]; done) | (rw [HFX.out]; simp; done) | (rw [HFX.out]; simp [*]; done), (by first | rfl | rw [H0.out]), (by first | rfl | rw [H0.out]), ⟨Below.refl _ _⟩⟩
        ·have hfx : fixedN T.f0 i = false := by have := HX0.out; simp [fixedN, h22]; omega
         rw [h22] at y0
         have HFX := Aside0.mk hfx
         have q5 : decide (x = 0) = false := decide_eq_false h0
         have q5' : (x = 0) = False := eq_false h0
         clear h17 h22 h0 hfx
         go_wp2
         go_meet
         case rel => exact ⟨(by first | rfl | rw [H0.out]), by first | (rw [HFX.out]; done) | (rw [HFX.out]; simp; done) | (rw [HFX.out]; simp [*]; done), (by first | rfl | rw [H0.out]), (by first | rfl | rw [H0.out]), ⟨Below.refl _ _⟩⟩
       ·by_cases h27 : T.f0 = 27
        ·have hfx : fixedN T.f0 i = true := by simp [fixedN, h27]
         rw [h27] at y0
         have HFX := Aside0.mk hfx
         clear h17 h22 h27 hfx
         go_wp2
         go_meet
         case rel => exact ⟨(by first | rfl | rw [H0.out]), by first | (rw [HFX.out]; done) | (rw [HFX.out]; simp; done) | (rw [HFX.out]; simp [*]; done), (by first | rfl | rw [H0.out]), (by first | rfl | rw [H0.out]), ⟨Below.refl _ _⟩⟩
        ·have hfx : fixedN T.f0 i = false := by simp [fixedN, h17, h22, h27]
         have HFX := Aside0.mk hfx
         have q7 : decide (T.f0 = 17) = false := decide_eq_false h17
         have q7' : (T.f0 = 17) = False := eq_false h17
         have q8 : decide (T.f0 = 22) = false := decide_eq_false h22
         have q8' : (T.f0 = 22) = False := eq_false h22
         have q9 : decide (T.f0 = 27) = false := decide_eq_false h27
         have q9' : (T.f0 = 27) = False := eq_false h27
         clear h17 h22 h27 hfx
         go_wp2
         go_meet
         case rel => exact ⟨(by first | rfl | rw [H0.out]), by first | (rw [HFX.out]; done) | (rw [HFX.out]; simp; done) | (rw [HFX.out]; simp [*]; done), (by first | rfl | rw [H0.out]), (by first | rfl | rw [H0.out]), ⟨Below.refl _ _⟩⟩
     case rest =>
      obtain ⟨rfl, rfl, rfl, rfl, HB7⟩ := hcut
      have K8 := Aside0.mk (And.intro (blk_below K7.out.1 HB7.out) (And.intro (blk_below K7.out.2.1 HB7.out) (And.intro (below_step K7.out.2.2 HB7.out) (KW.out.below HB7.out))))
      clear v0 v1 v2 v3 v4 v5 v6 v7 v8 v9 v10 v11 v12
      have v1 : wc.cell? ⟨wr.heap.size, 1, none⟩ = some (.bool T.f9[i].f1) := (blk_cell K8.out.1 1).trans rfl
      cases hfx : fixedN T.f0 i <;> cases hf1 : (T.f9[i]).f1 <;> rw [hf1] at v1
      ·clear hfx hf1
       go_wp2
       go_ret
       exact ⟨⟨false, rfl, fun e => (by cases e)⟩, K8.out.2.2.1⟩
      ·have HX := Aside0.mk (And.intro hfx hf1)
       clear hfx hf1
       go_wp2
       go_roundg (T.f9.length - (i + 1))
       case measure => have := HR.out.1; omega
       case rel =>
        refine ⟨i + 1, by first | (rw [HX0.out, E1.out.1]) | (rw [HX0.out, E1.out.2]) | go_num, ⟨⟨by have := HR.out.1; omega, K8.out.2.1, K8.out.2.2.1, K8.out.2.2.2, fun j hj hlt => ?_⟩⟩⟩
        by_cases hji : j < i
        ·exact HR.out.2.2.2.2 j hj hji
        ·have e : j = i := by omega
         subst e
         exact ⟨⟨List.eq_nil_of_length_eq_zero (by have := P1.out; omega), by have := P2.out; omega, HNM.out, by rw [HX.out.1, HX.out.2]; rfl⟩, HB.out.1 (by first | rfl | trivial)⟩
      ·have HX := Aside0.mk (And.intro hfx hf1)
       clear hfx hf1
       go_wp2
       go_roundg (T.f9.length - (i + 1))
       case measure => have := HR.out.1; omega
       case rel =>
        refine ⟨i + 1, by first | (rw [HX0.out, E1.out.1]) | (rw [HX0.out, E1.out.2]) | go_num, ⟨⟨by have := HR.out.1; omega, K8.out.2.1, K8.out.2.2.1, K8.out.2.2.2, fun j hj hlt => ?_⟩⟩⟩
        by_cases hji : j < i
        ·exact HR.out.2.2.2.2 j hj hji
        ·have e : j = i := by omega
         subst e
         exact ⟨⟨List.eq_nil_of_length_eq_zero (by have := P1.out; omega), by have := P2.out; omega, HNM.out, by rw [HX.out.1, HX.out.2]; rfl⟩, HB.out.1 (by first | rfl | trivial)⟩
      ·clear hfx hf1
       go_wp2
       go_ret
       exact ⟨⟨false, rfl, fun e => (by cases e)⟩, K8.out.2.2.1⟩
    ·obtain ⟨hn1, hn2⟩ := HC.out.2.2.1.want hw0
     have hil : i < (wantN T.f0).length := by omega
     obtain ⟨nm, hnm⟩ : ∃ s, (wantN T.f0)[i]? = some s := ⟨_, List.getElem?_eq_getElem hil⟩
     have xg : w6.cell? ⟨g, i, none⟩ = some (.string nm) := by
      rw [blk_cell hg i, List.getElem?_toArray, List.getElem?_map, hnm]
      rfl
     subst hv
     have HW := Aside0.mk (And.intro hnm hil)
     have qi : (i < (wantN T.f0).length) = True := eq_true hil
     have qi' : ((i : Int) < ((wantN T.f0).length : Int)) = True := eq_true (by omega)
     clear hn1 hn2 hg hw0 hnm
     by_cases hne : T.f9[i].f0 = nm
     ·have HNE := Aside0.mk hne
      rw [hne] at v0 q2 q2' q2''
      clear hne
      go_upto_region 9 with fail
      have bq := neq57_some w6.drew ⟨g, 0, none⟩ (wantN T.f0).length (wantN T.f0).length
      go_region
      clear bq
      have HNM := Aside0.mk (show wantN T.f0 ≠ [] → (wantN T.f0)[i]? = some (T.f9[i]).f0 from fun _ => by rw [HNE.out]; exact HW.out.1)
      go_upto_region 11 with fail
      refine wp_at ?_
      intro w7 hw7
      have K7 := Aside0.mk (show w7.heap[wr.heap.size]? = some (.cells #[.string T.f9[i].f0, .bool T.f9[i].f1, .int .i64 T.f9[i].f2.f0, .int .i64 T.f9[i].f2.f1, .bool T.f9[i].f2.f2, .int .i64 T.f9[i].f2.f3, .int .i64 T.f9[i].f2.f4, .int .i64 T.f9[i].f2.f5, .string T.f9[i].f2.f6, .bool T.f9[i].f2.f7, .slice A10 T.f9[i].f2.f8.length c10, .slice A11 T.f9[i].f2.f9.length c11, .slice A12 T.f9[i].f3.length c12] 30 (0, 0)) ∧ w7.heap[w.heap.size]? = some (.cells #[.int .i64 T.f0, .int .i64 T.f1, .bool T.f2, .int .i64 T.f3, .int .i64 T.f4, .int .i64 T.f5, .string T.f6, .bool T.f7, .slice A8 T.f8.length c8, .slice (some ad) T.f9.length c9] 28 (0, 0)) ∧ Below w.heap.size w w7 from by rw [hw7]; exact ⟨K6.out.1, K6.out.2.1, b3_ K6.out.2.2.1⟩)
      have KW := Aside0.mk (show WantAt w7 T.f0 _ from by rw [hw7]; exact K6.out.2.2.2.below (b3_ (Below.refl _ _)))
      clear hw7
      clear v0 v1 v2 v3 v4 v5 v6 v7 v8 v9 v10 v11 v12
      clear y0 y1 y2 y3 y4 y5 y6 y7 y8 y9
      obtain ⟨v0, v1, v2, v3, v4, v5, v6, v7, v8, v9, v10, v11, v12⟩ := cb13 K7.out.1
      obtain ⟨y0, y1, y2, y3, y4, y5, y6, y7, y8, y9⟩ := cb10 K7.out.2.1
      obtain ⟨x, hx⟩ : ∃ x : Int, x = (i : Int) := ⟨_, rfl⟩
      rw [← hx]
      have HX0 := Aside0.mk hx
      clear hx hd
      go_cut [5, 8, 26, 75] (fun v5 v8 v26 v75 wd => v5 = .int .i64 x ∧ v8 = .bool (fixedN T.f0 i) ∧ v26 = .int .i64 x ∧ v75 = .int .i64 x ∧ Aside0 (Below w7.heap.size w7 wd))
      case first =>
       by_cases h17 : T.f0 = 17
       ·have hfx : fixedN T.f0 i = true := by simp [fixedN, h17]
        rw [h17] at y0
        have HFX := Aside0.mk hfx
        clear h17 hfx
        go_wp2
        go_meet
        case rel => exact ⟨(by first | rfl | rw [H0.out]), by first | (rw [HFX.out]; done) | (rw [HFX.out]; simp; done) | (rw [HFX.out]; simp [*]; done), (by first | rfl | rw [H0.out]), (by first | rfl | rw [H0.out]), ⟨Below.refl _ _⟩⟩
       ·by_cases h22 : T.f0 = 22
        ·by_cases h0 : x = 0
         ·have hfx : fixedN T.f0 i = true := by have := HX0.out; simp [fixedN, h22]; omega
          rw [h22] at y0
          have HFX := Aside0.mk hfx
          have H0 := Aside0.mk h0
          have q5 : x = 0 := h0
          clear h17 h22 h0 hfx
          go_wp2
          go_meet
          case rel => exact ⟨(by first | rfl | rw [H0.out]), by first | (rw [HFX.out]; done) | (rw [HFX.out]; simp; done) | (rw [HFX.out]; simp [*]; done), (by first | rfl | rw [H0.out]), (by first | rfl | rw [H0.out]), ⟨Below.refl _ _⟩⟩
         ·have hfx : fixedN T.f0 i = false := by have := HX0.out; simp [fixedN, h22]; omega
          rw [h22] at y0
          have HFX := Aside0.mk hfx
          have q5 : decide (x = 0) = false := decide_eq_false h0
          have q5' : (x = 0) = False := eq_false h0
          clear h17 h22 h0 hfx
          go_wp2
          go_meet
          case rel => exact ⟨(by first | rfl | rw [H0.out]), by first | (rw [HFX.out]; done) | (rw [HFX.out]; simp; done) | (rw [HFX.out]; simp [*]; done), (by first | rfl | rw [H0.out]), (by first | rfl | rw [H0.out]), ⟨Below.refl _ _⟩⟩
        ·by_cases h27 : T.f0 = 27
         ·have hfx : fixedN T.f0 i = true := by simp [fixedN, h27]
          rw [h27] at y0
          have HFX := Aside0.mk hfx
          clear h17 h22 h27 hfx
          go_wp2
          go_meet
          case rel => exact ⟨(by first | rfl | rw [H0.out]), by first | (rw [HFX.out]; done) | (rw [HFX.out]; simp; done) | (rw [HFX.out]; simp [*]; done), (by first | rfl | rw [H0.out]), (by first | rfl | rw [H0.out]), ⟨Below.refl _ _⟩⟩
         ·have hfx : fixedN T.f0 i = false := by simp [fixedN, h17, h22, h27]
          have HFX := Aside0.mk hfx
          have q7 : decide (T.f0 = 17) = false := decide_eq_false h17
          have q7' : (T.f0 = 17) = False := eq_false h17
          have q8 : decide (T.f0 = 22) = false := decide_eq_false h22
          have q8' : (T.f0 = 22) = False := eq_false h22
          have q9 : decide (T.f0 = 27) = false := decide_eq_false h27
          have q9' : (T.f0 = 27) = False := eq_false h27
          clear h17 h22 h27 hfx
          go_wp2
          go_meet
          case rel => exact ⟨(by first | rfl | rw [H0.out]), by first | (rw [HFX.out]; done) | (rw [HFX.out]; simp; done) | (rw [HFX.out]; simp [*]; done), (by first | rfl | rw [H0.out]), (by first | rfl | rw [H0.out]), ⟨Below.refl _ _⟩⟩
      case rest =>
       obtain ⟨rfl, rfl, rfl, rfl, HB7⟩ := hcut
       have K8 := Aside0.mk (And.intro (blk_below K7.out.1 HB7.out) (And.intro (blk_below K7.out.2.1 HB7.out) (And.intro (below_step K7.out.2.2 HB7.out) (KW.out.below HB7.out))))
       clear v0 v1 v2 v3 v4 v5 v6 v7 v8 v9 v10 v11 v12
       have v1 : wc.cell? ⟨wr.heap.size, 1, none⟩ = some (.bool T.f9[i].f1) := (blk_cell K8.out.1 1).trans rfl
       cases hfx : fixedN T.f0 i <;> cases hf1 : (T.f9[i]).f1 <;> rw [hf1] at v1
       ·clear hfx hf1
        go_wp2
        go_ret
        exact ⟨⟨false, rfl, fun e => (by cases e)⟩, K8.out.2.2.1⟩
       ·have HX := Aside0.mk (And.intro hfx hf1)
        clear hfx hf1
        go_wp2
        go_roundg (T.f9.length - (i + 1))
        case measure => have := HR.out.1; omega
        case rel =>
         refine ⟨i + 1, by first | (rw [HX0.out, E1.out.1]) | (rw [HX0.out, E1.out.2]) | go_num, ⟨⟨by have := HR.out.1; omega, K8.out.2.1, K8.out.2.2.1, K8.out.2.2.2, fun j hj hlt => ?_⟩⟩⟩
         by_cases hji : j < i
         ·exact HR.out.2.2.2.2 j hj hji
         ·have e : j = i := by omega
          subst e
          exact ⟨⟨List.eq_nil_of_length_eq_zero (by have := P1.out; omega), by have := P2.out; omega, HNM.out, by rw [HX.out.1, HX.out.2]; rfl⟩, HB.out.1 (by first | rfl | trivial)⟩
       ·have HX := Aside0.mk (And.intro hfx hf1)
        clear hfx hf1
        go_wp2
        go_roundg (T.f9.length - (i + 1))
        case measure => have := HR.out.1; omega
        case rel =>
         refine ⟨i + 1, by first | (rw [HX0.out, E1.out.1]) | (rw [HX0.out, E1.out.2]) | go_num, ⟨⟨by have := HR.out.1; omega, K8.out.2.1, K8.out.2.2.1, K8.out.2.2.2, fun j hj hlt => ?_⟩⟩⟩
         by_cases hji : j < i
         ·exact HR.out.2.2.2.2 j hj hji
         ·have e : j = i := by omega
          subst e
          exact ⟨⟨List.eq_nil_of_length_eq_zero (by have := P1.out; omega), by have := P2.out; omega, HNM.out, by rw [HX.out.1, HX.out.2]; rfl⟩, HB.out.1 (by first | rfl | trivial)⟩
       ·clear hfx hf1
        go_wp2
        go_ret
        exact ⟨⟨false, rfl, fun e => (by cases e)⟩, K8.out.2.2.1⟩
     ·have qn : (T.f9[i].f0 = nm) = False := eq_false hne
      have qn' : decide (T.f9[i].f0 = nm) = false := decide_eq_false hne
      have qb : (T.f9[i].f0.toList == nm.toList) = false := by
       rw [beq_eq_false_iff_ne]
       exact fun e => hne (toList_inj e)
      clear hne
      go_upto_region 9 with fail
      have bq := neq57_some w6.drew ⟨g, 0, none⟩ (wantN T.f0).length (wantN T.f0).length
      go_region
      clear bq
      go_wp2
      go_ret
      exact ⟨⟨false, rfl, fun e => (by cases e)⟩, b3_ K6.out.2.2.1⟩
  ·have hd : decide ((i : Int) < (T.f9.length : Int)) = false := by simpa using hi
   obtain ⟨h1, h2, h3, h4, h5⟩ := HR.out
   have HF := Aside0.mk (And.intro h3 (fun (j : Nat) (hj : j < T.f9.length) => h5 j hj (by omega)))
   clear h1 h2 h3 h4 h5
   go_wp2
   go_ret
   exact ⟨⟨true, rfl, fun _ => UsualP.mk T (fun j hj => (HF.out.2 j hj).1) (fun h j hj => (HF.out.2 j hj).2.1 h) (fun h j hj => ((HF.out.2 j hj).2.2 h).1) (fun h j hj => ((HF.out.2 j hj).2.2 h).2)⟩, HF.out.1⟩
end Go.Proofs.YteebgnhhjlgnjaaGreatDoor.V
