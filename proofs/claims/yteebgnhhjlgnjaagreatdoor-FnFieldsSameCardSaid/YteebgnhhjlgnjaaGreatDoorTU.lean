/- arrow.TypeEqual of unions. -/
import Derived.Test.YteebgnhhjlgnjaaGreatDoorFE
import Derived.Test.YteebgnhhjlgnjaaGreatDoorE5
namespace Go.Proofs.YteebgnhhjlgnjaaGreatDoor.V
open Go.RowKit Go.Proofs.YteebgnhhjlgnjaaGreatDoorW.PrintWords Go.Proofs.YteebgnhhjlgnjaaGreatDoorW.PrintLast Go.Proofs.YteebgnhhjlgnjaaGreatDoorW.PrintMore
set_option maxHeartbeats 40000000
set_option maxRecDepth 100000
set_option linter.unusedVariables false
set_option linter.unusedSimpArgs false
abbrev Un1 (wr : World) (j : Nat) (nm : ByteArray) (q : TypeId) (p : Value) (nb : Bool) (b : Nat) (w' : World) : Prop := Below wr.heap.size wr w' ∧ w'.cell? ⟨b, j * 5, none⟩ = some (.string nm) ∧ w'.cell? ⟨b, j * 5 + 1, none⟩ = some (.iface q p) ∧ w'.cell? ⟨b, j * 5 + 2, none⟩ = some (.bool nb) ∧ w'.cell? ⟨b, j * 5 + 3, none⟩ = some (.slice none 0 0) ∧ w'.cell? ⟨b, j * 5 + 4, none⟩ = some (.slice none 0 0)
abbrev Un2 (wr : World) (j : Nat) (nm nm' : ByteArray) (q q' : TypeId) (p p' : Value) (nb nb' : Bool) (b b' : Nat) (w' : World) : Prop := Below wr.heap.size wr w' ∧ w'.cell? ⟨b, j * 5, none⟩ = some (.string nm) ∧ w'.cell? ⟨b, j * 5 + 1, none⟩ = some (.iface q p) ∧ w'.cell? ⟨b, j * 5 + 2, none⟩ = some (.bool nb) ∧ w'.cell? ⟨b, j * 5 + 3, none⟩ = some (.slice none 0 0) ∧ w'.cell? ⟨b, j * 5 + 4, none⟩ = some (.slice none 0 0) ∧ w'.cell? ⟨b', j * 5, none⟩ = some (.string nm') ∧ w'.cell? ⟨b', j * 5 + 1, none⟩ = some (.iface q' p') ∧ w'.cell? ⟨b', j * 5 + 2, none⟩ = some (.bool nb') ∧ w'.cell? ⟨b', j * 5 + 3, none⟩ = some (.slice none 0 0) ∧ w'.cell? ⟨b', j * 5 + 4, none⟩ = some (.slice none 0 0)
section
variable {P : Program} {ops : Array Oper} {Q : Exit → Act → World → Prop} {a : Act} {w : World}
theorem sd (n : Nat) (S : World → Prop) {id : Nat} (h : Kept S → ∀ w' : World, S w' → Below w.heap.size w w' → wpAnyLast P .any ops Q S [] n (ba n 0) a w') (hS : S w := by (repeat' apply And.intro) <;> first | exact Below.refl _ _ | assumption)
 (hk : Kept S := by refine ⟨fun _ _ hb hs => ?_⟩; (repeat (obtain ⟨_, hs⟩ := hs)); (repeat' apply And.intro) <;> first | exact pw_cell_below hb (by assumption) | exact below_step (by assumption) hb | exact blk_below (by assumption) hb)
 (hm : P.follows .mixedOrders = true := by kernel_rfl) (hn : ops.size = n := by exact rfl) (hl : Array.replicate n false = ba n 0 := by rfl) : (Code.region id ops true).wp P Q a w :=
 sa n S h hS hk hm hn hl
end
theorem row_cells {W : World} {g c e m k : Nat} {SA SB : Option Addr} {ids : List Int} {q : TypeId} (h : W.heap[g]? = some (.cells (List.toArray ([Value.slice SA m c, .slice SB k e] ++ childIds ids)) q (0, 0))) (i : Nat) (hi : i < ((List.range 128).map (fun c => childOf ids c)).length) :
 W.cell? ⟨g, 2 + i, none⟩ = some (.int .i64 ((List.range 128).map (fun c => childOf ids c))[i]) := by
 rw [blk_cell h]
 have h128 : i < 128 := by simpa using hi
 simp only [List.getElem?_toArray, List.cons_append, List.nil_append]
 rw [show 2 + i = i + 1 + 1 from by omega, List.getElem?_cons_succ, List.getElem?_cons_succ]
 simp [childIds, h128]
theorem teU (n : Nat) (hD : DpC (n + 1)) (hE : TeC n) (hF : FeC n) (T T' : S28) (d d' : DT) (v v' : Value) (w : World) (ok ok' : Nat → Prop) (A : Option Addr) (m : Nat) (hTD : TD (n + 1) T d) (hTD' : TD (n + 1) T' d') (hI : DTIn w ok d v) (hI' : DTIn w ok' d' v') (hdis : ∀ k, ok k → ok' k → False) (hO : OptAt w A m) (hnu : tyN d = 224 ∨ tyN d = 226) :
 Calls Tryz.prog 35 #[v, v', .slice A m m] w fun e w' => Tells e (d = d') ∧ Below w.heap.size w w' := by
 have HNU := Aside0.mk hnu
 clear hnu
 obtain ⟨bb, w1, hq, hbb, hw1⟩ := root_eq hI hI' hdis
 have hb1 : Below w.heap.size w w1 := by rcases hw1 with rfl | rfl; exact Below.refl _ _; exact b3_ (Below.refl _ _)
 obtain ⟨a, rfl, f, x, m1, c1, k1⟩ := id_any (hI.below hb1)
 obtain ⟨a', rfl, _⟩ := id_any hI'
 obtain ⟨P, hP⟩ : ∃ P : Prop, P = (d = d') := ⟨_, rfl⟩
 rw [← hP]
 have HT := Aside0.mk (And.intro hTD (And.intro hTD' (And.intro hdis (And.intro hD (And.intro hE hF)))))
 have HB := Aside0.mk hb1
 have HI := Aside0.mk (And.intro (hI.below hb1) (And.intro (hI'.below hb1) (hO.below hb1)))
 have HBB := Aside0.mk (show bb = true → P from fun e => by rw [hP]; exact hbb e)
 have HPP := Aside0.mk hP
 have K1 := Aside0.mk k1
 clear hTD hTD' hI hI' hdis hO hw1 hbb hb1 hD hE hF k1 hP
 cases bb with
 | true =>
  go_enter Tryz.func35, Tryz.ntmps35
  go_wp2
  go_ret
  exact ⟨tells_yes (HBB.out (by first | rfl | trivial)), HB.out⟩
 | false =>
  go_enter Tryz.func35, Tryz.ntmps35
  go_wp2
  refine K1.out.mono ?_
  rintro e w2 ⟨rfl, hb2⟩
  have HB2 := Aside0.mk hb2
  obtain ⟨a2, e2, f2, x2, m2, c2, k2⟩ := id_any (HI.out.2.1.below hb2)
  obtain ⟨_, rfl⟩ := (show _ ∧ a' = a2 by injection e2 with e3 e4; injection e4 with e5; injection e5 with e6; exact ⟨trivial, e6⟩)
  have K2 := Aside0.mk k2
  clear k2 e2 m1 c1 K1 hb2 hq
  go_wp2
  refine K2.out.mono ?_
  rintro e w3 ⟨rfl, hb3⟩
  have HI3 := Aside0.mk (And.intro (HI.out.1.below (below_step HB2.out hb3)) (And.intro (HI.out.2.1.below (below_step HB2.out hb3)) (HI.out.2.2.below (below_step HB2.out hb3))))
  have HB3 := Aside0.mk (below_step (below_step HB.out HB2.out) hb3)
  clear hb3 m2 c2 HB2 HI HB K2 HBB
  by_cases hty : tyN d = tyN d'
  rotate_left
  ·have hne : idN (tyN d) ≠ idN (tyN d') := fun e => hty (idN_inj _ _ (ty_mem HI3.out.1) (ty_mem HI3.out.2.1) e)
   have q1 : decide (idN (tyN d) = idN (tyN d')) = false := decide_eq_false hne
   have q2 : (idN (tyN d) = idN (tyN d')) = False := eq_false hne
   have q3 : (idN (tyN d) != idN (tyN d')) = true := by simpa using hne
   have HNE := Aside0.mk hty
   clear hne hty
   go_wp2
   go_ret
   exact ⟨tells_no (fun h => HNE.out (congrArg tyN (HPP.out.mp h))), HB3.out⟩
  have HTY := Aside0.mk hty
  rw [← hty]
  clear hty
  go_wp2
  have hm1 : m ≤ 1 := by rcases HI3.out.2.2 with h | h <;> omega
  have HM := Aside0.mk hm1
  clear hm1
  go_loopg [49] m (fun kq v49 wr => ∃ i : Nat, v49 = .int .i64 (i : Int) ∧ Aside0 (i + kq = m ∧ Below w3.heap.size w3 wr ∧ ∃ mt, wr.heap[w3.heap.size]? = some (.cells #[.bool mt] 152 (0, 0))))
  case atStart => exact ⟨0, rfl, ⟨⟨by omega, (Below.refl _ _).alloc (Nat.le_refl _) _, false, blk_new _ _⟩⟩⟩
  case round =>
   obtain ⟨i, rfl, HR⟩ := hrel
   by_cases hi : i < m
   ·rcases HI3.out.2.2 with ⟨h0, _⟩ | ⟨h0, g, hA, hg⟩
    ·omega
    ·obtain rfl : m = 1 := h0
     obtain rfl : i = 0 := by omega
     subst hA
     obtain ⟨h1, h2, mt, h3⟩ := HR.out
     have hc0 : wr.cell? ⟨g, 0, none⟩ = some (.func (.func 74) #[] #[]) := (blk_cell (blk_below hg h2) 0).trans rfl
     have hc1 : wr.cell? ⟨w3.heap.size, 0, none⟩ = some (.bool mt) := (blk_cell h3 0).trans rfl
     have hf1 := blk_frozen h3 0
     have HR2 := Aside0.mk (And.intro h2 h3)
     clear h1 h2 h3 hg hi
     go_wp2
     go_roundg 0
     case measure => have := HR.out.1; omega
     case rel =>
      refine ⟨1, by first | rfl | go_num, ⟨⟨by omega, ?_, true, ?_⟩⟩⟩
      ·exact Below.setCell HR2.out.1 (Nat.le_refl _) _
      ·exact blk_put_at HR2.out.2 rfl
   ·have hi0 : i = m := by have := HR.out.1; omega
    subst hi0
    obtain ⟨h1, h2, mt, h3⟩ := HR.out
    have k0 : wr.cell? ⟨w3.heap.size, 0, none⟩ = some (.bool mt) := (blk_cell h3 0).trans rfl
    have HI := Aside0.mk (And.intro (HI3.out.1.below h2) (And.intro (HI3.out.2.1.below h2) (And.intro (HI3.out.2.2.below h2) (And.intro (below_step HB3.out h2) h3))))
    clear h1 h2 h3 hi HI3 HB3 HR
    obtain ⟨u, hu⟩ : ∃ u, tyN d = u := ⟨_, rfl⟩
    rw [hu]
    have hu' : tyN d' = u := HTY.out.symm.trans hu
    have hU : u = 224 ∨ u = 226 := hu ▸ HNU.out
    have hc : u ∈ [224, 226] := by rcases hU with rfl | rfl <;> decide
    obtain ⟨ds, ids, hd, hp, hl, hil, hr, hn, hs⟩ := TDs.union_of (show TDs (TD n) T d from HT.out.1) hu hc
    obtain ⟨ds', ids', hd', hp', hl', hil', hr', hn', hs'⟩ := TDs.union_of (show TDs (TD n) T' d' from HT.out.2.1) hu' hc
    have hI := HI.out.1
    have hI' := HI.out.2.1
    rw [hd] at hI
    rw [hd'] at hI'
    simp only [DTIn, ptrAt] at hI hI'
    obtain ⟨_, g, SA, c, SB, ce, e, hk, hg, _, _, _, _, hr1, hr2⟩ := hI
    obtain ⟨_, g', SA', c', SB', ce', e', hk', hg', _, _, _, _, hr1', hr2'⟩ := hI'
    obtain rfl : a = ⟨g, 0, none⟩ := by injection e with _ e1; injection e1 with e2; injection e2
    obtain rfl : a' = ⟨g', 0, none⟩ := by injection e' with _ e1; injection e1 with e2; injection e2
    have HP := Aside0.mk (show P ↔ (ds = ds' ∧ ids = ids') from by rw [HPP.out, hd, hd']; simp)
    have HU := Aside0.mk hU
    have hz : (List.toArray ([Value.slice SA ds.length c, .slice SB ids.length ce] ++ childIds ids)).size = 130 := by simp [childIds]
    have hz' : (List.toArray ([Value.slice SA' ds'.length c', .slice SB' ids'.length ce'] ++ childIds ids')).size = 130 := by simp [childIds]
    have HG := Aside0.mk (And.intro hg (And.intro hg' (And.intro hz hz')))
    have HX := Aside0.mk (And.intro (show FsAt wr ok SA ds from hr1) (And.intro (show FsAt wr ok' SA' ds' from hr1') (And.intro hs (And.intro hs' (And.intro hl (And.intro hl' (And.intro hil (And.intro hil' (And.intro hp hp')))))))))
    have HID := Aside0.mk (And.intro hr (And.intro hn (And.intro hr' (And.intro hn' (And.intro hr2 hr2')))))
    obtain ⟨f, x, m1, c1, k1⟩ := mode_at hU hg hz
    have K1 := Aside0.mk k1
    have hn154 := (asn_154 u (.pointer (some ⟨g, 0, none⟩)) (by rcases hU with rfl | rfl <;> decide)).o
    have hn158 := (asn_158 u (.pointer (some ⟨g, 0, none⟩)) (by rcases hU with rfl | rfl <;> decide)).o
    have hn161 := (asn_161 u (.pointer (some ⟨g, 0, none⟩)) (by rcases hU with rfl | rfl <;> decide)).o
    have hn165 := (asn_165 u (.pointer (some ⟨g, 0, none⟩)) (by rcases hU with rfl | rfl <;> decide)).o
    have hy := asy_un u (.pointer (some ⟨g, 0, none⟩)) hU
    have hy' := aso_un u (.pointer (some ⟨g', 0, none⟩)) hU
    clear k1 e e' hk hk' hg hg' hr1 hr1' hr2 hr2' hs hs' hl hl' hil hil' hp hp' hr hr' hn hn' hz hz' hd hd' hc hu hu' k0 hU
    go_wp2
    refine K1.out.mono ?_
    rintro e w4 ⟨rfl, hb4⟩
    obtain ⟨f2, x2, m2, c2, k2⟩ := mode_at HU.out (blk_below HG.out.2.1 hb4) HG.out.2.2.2
    have K2 := Aside0.mk k2
    have HB4 := Aside0.mk hb4
    clear k2 hb4 m1 c1 K1
    go_wp2
    refine K2.out.mono ?_
    rintro e w5 ⟨rfl, hb5⟩
    have HB5 := Aside0.mk (below_step HB4.out hb5)
    clear hb5 m2 c2 K2 HB4 hy hy' hn154 hn158 hn161 hn165
    have mi := ids_at HU.out g
    have mi' := ids_at HU.out g'
    have ci := cf324
    go_wp2_with (go_at_call 324; fail)
    refine (ids324 g w5).mono ?_
    rintro e w6 ⟨rfl, hb6⟩
    have HB6 := Aside0.mk (below_step HB5.out hb6)
    clear hb6
    go_wp2_with (go_at_call 324; fail)
    refine (ids324 g' w6).mono ?_
    rintro e w7 ⟨rfl, hb7⟩
    have HB7 := Aside0.mk (below_step HB6.out hb7)
    clear hb7 mi mi' ci HB5 HB6
    go_wp2_with (go_at_call 71; fail)
    refine (eq71 ((List.range 128).map (fun c => childOf ids c)) ((List.range 128).map (fun c => childOf ids' c)) g g' w7 (by simp) (by simp) (row_cells (blk_below HG.out.1 HB7.out)) (row_cells (blk_below HG.out.2.1 HB7.out))).mono ?_
    rintro e w8 ⟨⟨r, rfl, hr⟩, hb8⟩
    have HRW := Aside0.mk hr
    have HB8 := Aside0.mk (below_step HB7.out hb8)
    clear hb8 hr HB7
    cases r with
    | false =>
     go_wp2
     go_ret
     exact ⟨tells_no (fun h => by have := HRW.out.2 (by rw [(HP.out.1 h).2]); simp at this), below_step HI.out.2.2.2.1 HB8.out⟩
    | true =>
     have HEQ := Aside0.mk (ids_of_row HID.out.2.1 HID.out.2.2.2.1 HID.out.1 HID.out.2.2.1 (HRW.out.1 (by first | rfl | trivial)))
     have hln : ds'.length = ds.length := by rw [← HX.out.2.2.2.2.2.2.2.1, ← HX.out.2.2.2.2.2.2.1, HEQ.out]
     have HLN := Aside0.mk hln
     clear hln
     have mf := fields_at HU.out g
     have mf' := fields_at HU.out g'
     have cf := cf119
     go_wp2_with (go_at_call 119; fail)
     refine (fields119 g c SA ds ok w8 HX.out.2.2.2.2.2.2.2.2.1 HX.out.2.2.2.2.1 ((blk_cell (blk_below HG.out.1 HB8.out) 0).trans rfl) (HX.out.1.below HB8.out)).mono ?_
     rintro e w9 ⟨⟨rfl, _⟩, hb9⟩
     have HB9 := Aside0.mk (below_step HB8.out hb9)
     clear hb9 HB8
     go_wp2
     go_loopg [301] ds.length (fun kq v301 wq => ∃ j : Nat, v301 = .int .i64 (j : Int) ∧ Aside0 (j + kq = ds.length ∧ Below w9.heap.size w9 wq ∧ ∀ (k : Nat) (hk : k < ds.length) (hk' : k < ds'.length), k < j → ds[k] = ds'[k]))
     case atStart => exact ⟨0, rfl, ⟨⟨by omega, Below.refl _ _, fun k hk hk' h => absurd h (by omega)⟩⟩⟩
     case round =>
      obtain ⟨j, rfl, HR⟩ := hrel
      by_cases hj : j < ds.length
      rotate_left
      ·have hd : decide ((j : Int) < (ds.length : Int)) = false := by simpa using hj
       have HF := Aside0.mk (show ds = ds' from List.ext_getElem HLN.out.symm (fun k hk hk' => HR.out.2.2 k hk hk' (by omega)))
       go_wp2
       go_ret
       exact ⟨tells_yes (HP.out.2 ⟨HF.out, HEQ.out⟩), below_step HI.out.2.2.2.1 (below_step HB9.out HR.out.2.1)⟩
      have hd : decide ((j : Int) < (ds.length : Int)) = true := by simpa using hj
      have hj' : j < ds'.length := by have := HLN.out; omega
      have e1 : wrap64 ((j : Int) + 1) = ((j + 1 : Nat) : Int) := by have := HX.out.2.2.2.2.1; rw [w64_id _ (by omega) (by omega)]; omega
      have E1 := Aside0.mk e1
      clear e1
      have HBW := Aside0.mk (below_step HB9.out HR.out.2.1)
      obtain ⟨b, x, hA, hx, y1, y2, y3, y4, y5⟩ := (HX.out.1.below HBW.out).get j hj
      obtain ⟨b', x', hA', hx', z1, z2, z3, z4, z5⟩ := (HX.out.2.1.below HBW.out).get j hj'
      subst hA
      subst hA'
      have y0 : wr.cell? ⟨g, 0, none⟩ = some (.slice (some ⟨b, 0, none⟩) ds.length c) := (blk_cell (blk_below HG.out.1 HBW.out) 0).trans rfl
      have z0 : wr.cell? ⟨g', 0, none⟩ = some (.slice (some ⟨b', 0, none⟩) ds'.length c') := (blk_cell (blk_below HG.out.2.1 HBW.out) 0).trans rfl
      obtain ⟨T1, hT1⟩ := HX.out.2.2.1 _ (List.getElem_mem hj)
      obtain ⟨T2, hT2⟩ := HX.out.2.2.2.1 _ (List.getElem_mem hj')
      obtain ⟨q, a_, rfl⟩ := hx.form
      obtain ⟨q', a_', rfl⟩ := hx'.form
      obtain ⟨p, hp⟩ : ∃ p, p = Value.pointer (some a_) := ⟨_, rfl⟩
      obtain ⟨p', hp'⟩ : ∃ p, p = Value.pointer (some a_') := ⟨_, rfl⟩
      rw [← hp] at hx y2
      rw [← hp'] at hx' z2
      generalize hf : ds[j] = fj at hx hT1 y1 y3
      generalize hf' : ds'[j] = fj' at hx' hT2 z1 z3
      obtain ⟨nm, ty, nb⟩ := fj
      obtain ⟨nm', ty', nb'⟩ := fj'
      simp only [DF.name, DF.null, DF.type] at hx hx' hT1 hT2 y1 y3 z1 z3
      have HZ := Aside0.mk (And.intro hx (And.intro hx' (And.intro hT1 hT2)))
      have HF := Aside0.mk (And.intro hf hf')
      have HY := Aside0.mk (And.intro y0 (And.intro y1 (And.intro y2 (And.intro y3 (And.intro y4 y5)))))
      have HZZ := Aside0.mk (And.intro z0 (And.intro z1 (And.intro z2 (And.intro z3 (And.intro z4 z5)))))
      have qi : (j < ds.length) = True := eq_true hj
      have qi' : ((j : Int) < (ds.length : Int)) = True := eq_true (by omega)
      have qj : (j < ds'.length) = True := eq_true hj'
      have qj' : ((j : Int) < (ds'.length : Int)) = True := eq_true (by omega)
      clear hp hp' hx hx' hT1 hT2 hf hf' y0 y1 y2 y3 y4 y5 z0 z1 z2 z3 z4 z5
      go_upto_region 78 with fail
      go_cut [22, 23] (fun v22 v23 wc => ∃ g1 g2 : Nat, v22 = .pointer (some ⟨g1, 0, none⟩) ∧ v23 = .pointer (some ⟨g2, 0, none⟩) ∧ Aside0 (wc.heap[g1]? = some (.cells #[.string nm, .iface q p, .bool nb, .slice none 0 0, .slice none 0 0] 61 (0, 0)) ∧ wc.heap[g2]? = some (.cells #[.string nm', .iface q' p', .bool nb', .slice none 0 0, .slice none 0 0] 61 (0, 0)) ∧ Below wr.heap.size wr wc))
      case first =>
       refine sa 14 (fun w' => Below wr.heap.size wr w') (fun hk0 w0 hs0 hb0 => ?_) (hS := Below.refl _ _) (hk := ⟨fun _ _ hb h => below_step h hb⟩)
       have hz0 := hs0.size
       refine pu 0 304 1 ?_
       refine pu 2 306 5 ?_
       refine pu 5 309 37 ?_
       refine pu 7 311 165 ?_
       refine jn (n := 14) (σ := Nat × Nat × Nat × Nat) 2 4095 (fun s => [(305, .slice (some ⟨s.1, 0, none⟩) ds.length ds.length), (307, .pointer (some ⟨s.1, j * 5, none⟩)), (308, .agg #[.string nm, .iface q p, .bool nb, .slice none 0 0, .slice none 0 0]), (310, .slice (some ⟨s.2.1, 0, none⟩) ds'.length ds'.length), (312, .pointer (some ⟨s.2.1, j * 5, none⟩)), (313, .agg #[.string nm', .iface q' p', .bool nb', .slice none 0 0, .slice none 0 0]), (22, .pointer (some ⟨s.2.2.1, 0, none⟩)), (23, .pointer (some ⟨s.2.2.2, 0, none⟩))]) (fun s w' => (Un2 wr j nm nm' q q' p p' nb nb' s.1 s.2.1 w') ∧ w'.heap[s.2.2.1]? = some (.cells #[.string ⟨#[]⟩, .nilIface, .bool false, .slice none 0 0, .slice none 0 0] 61 (0, 0)) ∧ w'.heap[s.2.2.2]? = some (.cells #[.string ⟨#[]⟩, .nilIface, .bool false, .slice none 0 0, .slice none 0 0] 61 (0, 0)) ∧ (s.2.2.1 ≠ s.2.2.2 ∧ s.1 ≠ s.2.2.1 ∧ s.2.1 ≠ s.2.2.1 ∧ s.1 ≠ s.2.2.2 ∧ s.2.1 ≠ s.2.2.2 ∧ wr.heap.size ≤ s.2.2.1 ∧ wr.heap.size ≤ s.2.2.2)) (fun s w' => Un2 wr j nm nm' q q' p p' nb nb' s.1 s.2.1 w') ?_ (fun hj => ?_)
       ·rintro ⟨b1, b2, g1, g2⟩ w4 ⟨hs4, hg1, hg2, hne⟩
        simp only [] at hne hg1 hg2
        refine norm_ (a' := ?_) ?_ ?_
        rotate_left
        ·simp only [putAll, Act.put, s1_, s2_, s3_, i64_w, i32_w]
         rfl
        have hs5 : (fun w' => Un2 wr j nm nm' q q' p p' nb nb' b1 b2 w') (w4.setRow g1 #[.string nm, .iface q p, .bool nb, .slice none 0 0, .slice none 0 0]) := ⟨below_setRow hs4.1 (by omega) _, cell_setRow _ (by omega) hs4.2.1, cell_setRow _ (by omega) hs4.2.2.1, cell_setRow _ (by omega) hs4.2.2.2.1, cell_setRow _ (by omega) hs4.2.2.2.2.1, cell_setRow _ (by omega) hs4.2.2.2.2.2.1, cell_setRow _ (by omega) hs4.2.2.2.2.2.2.1, cell_setRow _ (by omega) hs4.2.2.2.2.2.2.2.1, cell_setRow _ (by omega) hs4.2.2.2.2.2.2.2.2.1, cell_setRow _ (by omega) hs4.2.2.2.2.2.2.2.2.2.1, cell_setRow _ (by omega) hs4.2.2.2.2.2.2.2.2.2.2⟩
        refine rdy [12] (sb 12 8191 g1 #[.string nm, .iface q p, .bool nb, .slice none 0 0, .slice none 0 0] hg1 (by kernel_rfl) rfl (one61 _ _ _ _) hs5 ?_ rn)
        have hg1' := setRow_heap _ _ _ (#[.string nm, .iface q p, .bool nb, .slice none 0 0, .slice none 0 0]) _ _ hg1
        have hg2' := (setRow_other w4 g1 g2 (#[.string nm, .iface q p, .bool nb, .slice none 0 0, .slice none 0 0]) (by omega)).trans hg2
        have hs6 : (fun w' => Un2 wr j nm nm' q q' p p' nb nb' b1 b2 w') ((w4.setRow g1 #[.string nm, .iface q p, .bool nb, .slice none 0 0, .slice none 0 0]).setRow g2 #[.string nm', .iface q' p', .bool nb', .slice none 0 0, .slice none 0 0]) := ⟨below_setRow hs5.1 (by omega) _, cell_setRow _ (by omega) hs5.2.1, cell_setRow _ (by omega) hs5.2.2.1, cell_setRow _ (by omega) hs5.2.2.2.1, cell_setRow _ (by omega) hs5.2.2.2.2.1, cell_setRow _ (by omega) hs5.2.2.2.2.2.1, cell_setRow _ (by omega) hs5.2.2.2.2.2.2.1, cell_setRow _ (by omega) hs5.2.2.2.2.2.2.2.1, cell_setRow _ (by omega) hs5.2.2.2.2.2.2.2.2.1, cell_setRow _ (by omega) hs5.2.2.2.2.2.2.2.2.2.1, cell_setRow _ (by omega) hs5.2.2.2.2.2.2.2.2.2.2⟩
        refine rdy [13] (sb 13 16383 g2 #[.string nm', .iface q' p', .bool nb', .slice none 0 0, .slice none 0 0] hg2' (by kernel_rfl) rfl (one61 _ _ _ _) hs6 ?_ rn)
        refine done_ (by kernel_rfl) ?_
        go_wp2
        go_meet
        case rel => exact ⟨g1, g2, rfl, rfl, ⟨⟨(setRow_other _ _ _ _ (by omega)).trans hg1', setRow_heap _ _ _ _ _ _ hg2', below_setRow hs5.1 (by omega) _⟩⟩⟩
       refine rdy [1, 10, 11] (rc 1 305 167 hk0 hs0 (fields119 g c _ ds ok w0 HX.out.2.2.2.2.2.2.2.2.1 HX.out.2.2.2.2.1 (pw_cell_below hs0 HY.out.1) (HX.out.1.below (below_step HBW.out hs0))) (fun e w1 hR hs_ hb => ?_) (rb 10 22 1189 (.cells #[.string ⟨#[]⟩, .nilIface, .bool false, .slice none 0 0, .slice none 0 0] 61 (0, 0)) hk0 hs0 (fun w1 hz hg hs_ hb => ?_) (rb 11 23 2213 (.cells #[.string ⟨#[]⟩, .nilIface, .bool false, .slice none 0 0, .slice none 0 0] 61 (0, 0)) hk0 hs0 (fun w1 hz hg hs_ hb => ?_) rn)) (hrun := inv_ rfl rfl (mf _) (cf _ _)))
       ·obtain ⟨rfl, hc_⟩ := hR
        refine ⟨_, rfl, no 305 ?_⟩
        have hz1 := hb.size
        refine mp (fun w' => Un1 wr j nm q p nb w0.heap.size w') ⟨hs_, hc_ _ rfl _ _ (by omega) (pw_cell_below hs0 HY.out.2.1), hc_ _ rfl _ _ (by omega) (pw_cell_below hs0 HY.out.2.2.1), hc_ _ rfl _ _ (by omega) (pw_cell_below hs0 HY.out.2.2.2.1), hc_ _ rfl _ _ (by omega) (pw_cell_below hs0 HY.out.2.2.2.2.1), hc_ _ rfl _ _ (by omega) (pw_cell_below hs0 HY.out.2.2.2.2.2)⟩ (fun hk1 hs1 => ?_)
        refine pu 3 307 175 ?_
        refine ta 4 308 191 ?_
        have hl1 : w0.heap.size < w1.heap.size := World.block_lt_of_cell? _ _ hs1.2.1
        clear hb hc_ hs_
        refine rdy [6, 10, 11] (rc 6 310 255 hk1 hs1 (fields119 g' c' _ ds' ok' w1 HX.out.2.2.2.2.2.2.2.2.2 HX.out.2.2.2.2.2.1 (pw_cell_below hs1.1 HZZ.out.1) (HX.out.2.1.below (below_step HBW.out hs1.1))) (fun e w2 hR hs_ hb => ?_) (rb 10 22 1215 (.cells #[.string ⟨#[]⟩, .nilIface, .bool false, .slice none 0 0, .slice none 0 0] 61 (0, 0)) hk1 hs1 (fun w2 hz hg hs_ hb => ?_) (rb 11 23 2239 (.cells #[.string ⟨#[]⟩, .nilIface, .bool false, .slice none 0 0, .slice none 0 0] 61 (0, 0)) hk1 hs1 (fun w2 hz hg hs_ hb => ?_) rn)) (hrun := inv_ rfl rfl (mf' _) (cf _ _)))
        ·obtain ⟨rfl, hc_⟩ := hR
         refine ⟨_, rfl, no 310 ?_⟩
         have hz2 := hb.size
         refine mp (fun w' => Un2 wr j nm nm' q q' p p' nb nb' w0.heap.size w1.heap.size w') ⟨hs_.1, hs_.2.1, hs_.2.2.1, hs_.2.2.2.1, hs_.2.2.2.2.1, hs_.2.2.2.2.2, hc_ _ rfl _ _ (by omega) (pw_cell_below hs1.1 HZZ.out.2.1), hc_ _ rfl _ _ (by omega) (pw_cell_below hs1.1 HZZ.out.2.2.1), hc_ _ rfl _ _ (by omega) (pw_cell_below hs1.1 HZZ.out.2.2.2.1), hc_ _ rfl _ _ (by omega) (pw_cell_below hs1.1 HZZ.out.2.2.2.2.1), hc_ _ rfl _ _ (by omega) (pw_cell_below hs1.1 HZZ.out.2.2.2.2.2)⟩ (fun hk2 hs2 => ?_)
         refine pu 8 312 511 ?_
         refine ta 9 313 1023 ?_
         have hl2 : w1.heap.size < w2.heap.size := World.block_lt_of_cell? _ _ hs2.2.2.2.2.2.2.1
         clear hb hc_ hs_
         refine rdy [10, 11] (rb 10 22 2047 (.cells #[.string ⟨#[]⟩, .nilIface, .bool false, .slice none 0 0, .slice none 0 0] 61 (0, 0)) hk2 hs2 (fun w3 hz hg hs_ hb => ?_) (rb 11 23 3071 (.cells #[.string ⟨#[]⟩, .nilIface, .bool false, .slice none 0 0, .slice none 0 0] 61 (0, 0)) hk2 hs2 (fun w3 hz hg hs_ hb => ?_) rn))
         ·refine no 22 ?_
          have gA3 := hg
          have hz3 : w3.heap.size ≤ w2.heap.size + 1 ∧ w2.heap.size + 1 ≤ w3.heap.size := by omega
          have hs3 := hs_
          clear hg hz hs_ hb
          refine rdy [11] (rb 11 23 4095 (.cells #[.string ⟨#[]⟩, .nilIface, .bool false, .slice none 0 0, .slice none 0 0] 61 (0, 0)) hk2 hs3 (fun w4 hz hg hs_ hb => ?_) rn)
          ·refine no 23 ?_
           have gA4 := blk_below gA3 hb
           have gB4 := hg
           have hz4 : w4.heap.size ≤ w3.heap.size + 1 ∧ w3.heap.size + 1 ≤ w4.heap.size := by omega
           have hs4 := hs_
           clear hg hz hs_ hb
           refine norm_ ?_ (hj (w0.heap.size, w1.heap.size, w2.heap.size, w3.heap.size) w4 ⟨hs4, gA4, gB4, by dsimp only; omega⟩)
           simp only [putAll, Act.put, s1_, s2_, s3_, i64_w, i32_w] <;> rfl
         ·refine no 23 ?_
          have gB3 := hg
          have hz3 : w3.heap.size ≤ w2.heap.size + 1 ∧ w2.heap.size + 1 ≤ w3.heap.size := by omega
          have hs3 := hs_
          clear hg hz hs_ hb
          refine rdy [10] (rb 10 22 4095 (.cells #[.string ⟨#[]⟩, .nilIface, .bool false, .slice none 0 0, .slice none 0 0] 61 (0, 0)) hk2 hs3 (fun w4 hz hg hs_ hb => ?_) rn)
          ·refine no 22 ?_
           have gB4 := blk_below gB3 hb
           have gA4 := hg
           have hz4 : w4.heap.size ≤ w3.heap.size + 1 ∧ w3.heap.size + 1 ≤ w4.heap.size := by omega
           have hs4 := hs_
           clear hg hz hs_ hb
           refine norm_ ?_ (hj (w0.heap.size, w1.heap.size, w3.heap.size, w2.heap.size) w4 ⟨hs4, gA4, gB4, by dsimp only; omega⟩)
           simp only [putAll, Act.put, s1_, s2_, s3_, i64_w, i32_w] <;> rfl
        ·refine no 22 ?_
         have gA2 := hg
         have hz2 : w2.heap.size ≤ w1.heap.size + 1 ∧ w1.heap.size + 1 ≤ w2.heap.size := by omega
         have hs2 := hs_
         clear hg hz hs_ hb
         refine rdy [6, 11] (rc 6 310 1279 hk1 hs2 (fields119 g' c' _ ds' ok' w2 HX.out.2.2.2.2.2.2.2.2.2 HX.out.2.2.2.2.2.1 (pw_cell_below hs2.1 HZZ.out.1) (HX.out.2.1.below (below_step HBW.out hs2.1))) (fun e w3 hR hs_ hb => ?_) (rb 11 23 3263 (.cells #[.string ⟨#[]⟩, .nilIface, .bool false, .slice none 0 0, .slice none 0 0] 61 (0, 0)) hk1 hs2 (fun w3 hz hg hs_ hb => ?_) rn) (hrun := inv_ rfl rfl (mf' _) (cf _ _)))
         ·obtain ⟨rfl, hc_⟩ := hR
          refine ⟨_, rfl, no 310 ?_⟩
          have gA3 := blk_below gA2 hb
          have hz3 := hb.size
          refine mp (fun w' => Un2 wr j nm nm' q q' p p' nb nb' w0.heap.size w2.heap.size w') ⟨hs_.1, hs_.2.1, hs_.2.2.1, hs_.2.2.2.1, hs_.2.2.2.2.1, hs_.2.2.2.2.2, hc_ _ rfl _ _ (by omega) (pw_cell_below hs2.1 HZZ.out.2.1), hc_ _ rfl _ _ (by omega) (pw_cell_below hs2.1 HZZ.out.2.2.1), hc_ _ rfl _ _ (by omega) (pw_cell_below hs2.1 HZZ.out.2.2.2.1), hc_ _ rfl _ _ (by omega) (pw_cell_below hs2.1 HZZ.out.2.2.2.2.1), hc_ _ rfl _ _ (by omega) (pw_cell_below hs2.1 HZZ.out.2.2.2.2.2)⟩ (fun hk3 hs3 => ?_)
          refine pu 8 312 1535 ?_
          refine ta 9 313 2047 ?_
          have hl3 : w2.heap.size < w3.heap.size := World.block_lt_of_cell? _ _ hs3.2.2.2.2.2.2.1
          clear hb hc_ hs_
          refine rdy [11] (rb 11 23 4095 (.cells #[.string ⟨#[]⟩, .nilIface, .bool false, .slice none 0 0, .slice none 0 0] 61 (0, 0)) hk3 hs3 (fun w4 hz hg hs_ hb => ?_) rn)
          ·refine no 23 ?_
           have gA4 := blk_below gA3 hb
           have gB4 := hg
           have hz4 : w4.heap.size ≤ w3.heap.size + 1 ∧ w3.heap.size + 1 ≤ w4.heap.size := by omega
           have hs4 := hs_
           clear hg hz hs_ hb
           refine norm_ ?_ (hj (w0.heap.size, w2.heap.size, w1.heap.size, w3.heap.size) w4 ⟨hs4, gA4, gB4, by dsimp only; omega⟩)
           simp only [putAll, Act.put, s1_, s2_, s3_, i64_w, i32_w] <;> rfl
         ·refine no 23 ?_
          have gA3 := blk_below gA2 hb
          have gB3 := hg
          have hz3 : w3.heap.size ≤ w2.heap.size + 1 ∧ w2.heap.size + 1 ≤ w3.heap.size := by omega
          have hs3 := hs_
          clear hg hz hs_ hb
          refine rdy [6] (rc 6 310 3327 hk1 hs3 (fields119 g' c' _ ds' ok' w3 HX.out.2.2.2.2.2.2.2.2.2 HX.out.2.2.2.2.2.1 (pw_cell_below hs3.1 HZZ.out.1) (HX.out.2.1.below (below_step HBW.out hs3.1))) (fun e w4 hR hs_ hb => ?_) rn (hrun := inv_ rfl rfl (mf' _) (cf _ _)))
          ·obtain ⟨rfl, hc_⟩ := hR
           refine ⟨_, rfl, no 310 ?_⟩
           have gA4 := blk_below gA3 hb
           have gB4 := blk_below gB3 hb
           have hz4 := hb.size
           refine mp (fun w' => Un2 wr j nm nm' q q' p p' nb nb' w0.heap.size w3.heap.size w') ⟨hs_.1, hs_.2.1, hs_.2.2.1, hs_.2.2.2.1, hs_.2.2.2.2.1, hs_.2.2.2.2.2, hc_ _ rfl _ _ (by omega) (pw_cell_below hs3.1 HZZ.out.2.1), hc_ _ rfl _ _ (by omega) (pw_cell_below hs3.1 HZZ.out.2.2.1), hc_ _ rfl _ _ (by omega) (pw_cell_below hs3.1 HZZ.out.2.2.2.1), hc_ _ rfl _ _ (by omega) (pw_cell_below hs3.1 HZZ.out.2.2.2.2.1), hc_ _ rfl _ _ (by omega) (pw_cell_below hs3.1 HZZ.out.2.2.2.2.2)⟩ (fun hk4 hs4 => ?_)
           refine pu 8 312 3583 ?_
           refine ta 9 313 4095 ?_
           have hl4 : w3.heap.size < w4.heap.size := World.block_lt_of_cell? _ _ hs4.2.2.2.2.2.2.1
           clear hb hc_ hs_
           refine norm_ ?_ (hj (w0.heap.size, w3.heap.size, w1.heap.size, w2.heap.size) w4 ⟨hs4, gA4, gB4, by dsimp only; omega⟩)
           simp only [putAll, Act.put, s1_, s2_, s3_, i64_w, i32_w] <;> rfl
        ·refine no 23 ?_
         have gB2 := hg
         have hz2 : w2.heap.size ≤ w1.heap.size + 1 ∧ w1.heap.size + 1 ≤ w2.heap.size := by omega
         have hs2 := hs_
         clear hg hz hs_ hb
         refine rdy [6, 10] (rc 6 310 2303 hk1 hs2 (fields119 g' c' _ ds' ok' w2 HX.out.2.2.2.2.2.2.2.2.2 HX.out.2.2.2.2.2.1 (pw_cell_below hs2.1 HZZ.out.1) (HX.out.2.1.below (below_step HBW.out hs2.1))) (fun e w3 hR hs_ hb => ?_) (rb 10 22 3263 (.cells #[.string ⟨#[]⟩, .nilIface, .bool false, .slice none 0 0, .slice none 0 0] 61 (0, 0)) hk1 hs2 (fun w3 hz hg hs_ hb => ?_) rn) (hrun := inv_ rfl rfl (mf' _) (cf _ _)))
         ·obtain ⟨rfl, hc_⟩ := hR
          refine ⟨_, rfl, no 310 ?_⟩
          have gB3 := blk_below gB2 hb
          have hz3 := hb.size
          refine mp (fun w' => Un2 wr j nm nm' q q' p p' nb nb' w0.heap.size w2.heap.size w') ⟨hs_.1, hs_.2.1, hs_.2.2.1, hs_.2.2.2.1, hs_.2.2.2.2.1, hs_.2.2.2.2.2, hc_ _ rfl _ _ (by omega) (pw_cell_below hs2.1 HZZ.out.2.1), hc_ _ rfl _ _ (by omega) (pw_cell_below hs2.1 HZZ.out.2.2.1), hc_ _ rfl _ _ (by omega) (pw_cell_below hs2.1 HZZ.out.2.2.2.1), hc_ _ rfl _ _ (by omega) (pw_cell_below hs2.1 HZZ.out.2.2.2.2.1), hc_ _ rfl _ _ (by omega) (pw_cell_below hs2.1 HZZ.out.2.2.2.2.2)⟩ (fun hk3 hs3 => ?_)
          refine pu 8 312 2559 ?_
          refine ta 9 313 3071 ?_
          have hl3 : w2.heap.size < w3.heap.size := World.block_lt_of_cell? _ _ hs3.2.2.2.2.2.2.1
          clear hb hc_ hs_
          refine rdy [10] (rb 10 22 4095 (.cells #[.string ⟨#[]⟩, .nilIface, .bool false, .slice none 0 0, .slice none 0 0] 61 (0, 0)) hk3 hs3 (fun w4 hz hg hs_ hb => ?_) rn)
          ·refine no 22 ?_
           have gB4 := blk_below gB3 hb
           have gA4 := hg
           have hz4 : w4.heap.size ≤ w3.heap.size + 1 ∧ w3.heap.size + 1 ≤ w4.heap.size := by omega
           have hs4 := hs_
           clear hg hz hs_ hb
           refine norm_ ?_ (hj (w0.heap.size, w2.heap.size, w3.heap.size, w1.heap.size) w4 ⟨hs4, gA4, gB4, by dsimp only; omega⟩)
           simp only [putAll, Act.put, s1_, s2_, s3_, i64_w, i32_w] <;> rfl
         ·refine no 22 ?_
          have gB3 := blk_below gB2 hb
          have gA3 := hg
          have hz3 : w3.heap.size ≤ w2.heap.size + 1 ∧ w2.heap.size + 1 ≤ w3.heap.size := by omega
          have hs3 := hs_
          clear hg hz hs_ hb
          refine rdy [6] (rc 6 310 3327 hk1 hs3 (fields119 g' c' _ ds' ok' w3 HX.out.2.2.2.2.2.2.2.2.2 HX.out.2.2.2.2.2.1 (pw_cell_below hs3.1 HZZ.out.1) (HX.out.2.1.below (below_step HBW.out hs3.1))) (fun e w4 hR hs_ hb => ?_) rn (hrun := inv_ rfl rfl (mf' _) (cf _ _)))
          ·obtain ⟨rfl, hc_⟩ := hR
           refine ⟨_, rfl, no 310 ?_⟩
           have gA4 := blk_below gA3 hb
           have gB4 := blk_below gB3 hb
           have hz4 := hb.size
           refine mp (fun w' => Un2 wr j nm nm' q q' p p' nb nb' w0.heap.size w3.heap.size w') ⟨hs_.1, hs_.2.1, hs_.2.2.1, hs_.2.2.2.1, hs_.2.2.2.2.1, hs_.2.2.2.2.2, hc_ _ rfl _ _ (by omega) (pw_cell_below hs3.1 HZZ.out.2.1), hc_ _ rfl _ _ (by omega) (pw_cell_below hs3.1 HZZ.out.2.2.1), hc_ _ rfl _ _ (by omega) (pw_cell_below hs3.1 HZZ.out.2.2.2.1), hc_ _ rfl _ _ (by omega) (pw_cell_below hs3.1 HZZ.out.2.2.2.2.1), hc_ _ rfl _ _ (by omega) (pw_cell_below hs3.1 HZZ.out.2.2.2.2.2)⟩ (fun hk4 hs4 => ?_)
           refine pu 8 312 3583 ?_
           refine ta 9 313 4095 ?_
           have hl4 : w3.heap.size < w4.heap.size := World.block_lt_of_cell? _ _ hs4.2.2.2.2.2.2.1
           clear hb hc_ hs_
           refine norm_ ?_ (hj (w0.heap.size, w3.heap.size, w2.heap.size, w1.heap.size) w4 ⟨hs4, gA4, gB4, by dsimp only; omega⟩)
           simp only [putAll, Act.put, s1_, s2_, s3_, i64_w, i32_w] <;> rfl
       ·refine no 22 ?_
        have gA1 := hg
        have hz1 : w1.heap.size ≤ w0.heap.size + 1 ∧ w0.heap.size + 1 ≤ w1.heap.size := by omega
        have hs1 := hs_
        clear hg hz hs_ hb
        refine rdy [1, 11] (rc 1 305 1191 hk0 hs1 (fields119 g c _ ds ok w1 HX.out.2.2.2.2.2.2.2.2.1 HX.out.2.2.2.2.1 (pw_cell_below hs1 HY.out.1) (HX.out.1.below (below_step HBW.out hs1))) (fun e w2 hR hs_ hb => ?_) (rb 11 23 3237 (.cells #[.string ⟨#[]⟩, .nilIface, .bool false, .slice none 0 0, .slice none 0 0] 61 (0, 0)) hk0 hs1 (fun w2 hz hg hs_ hb => ?_) rn) (hrun := inv_ rfl rfl (mf _) (cf _ _)))
        ·obtain ⟨rfl, hc_⟩ := hR
         refine ⟨_, rfl, no 305 ?_⟩
         have gA2 := blk_below gA1 hb
         have hz2 := hb.size
         refine mp (fun w' => Un1 wr j nm q p nb w1.heap.size w') ⟨hs_, hc_ _ rfl _ _ (by omega) (pw_cell_below hs1 HY.out.2.1), hc_ _ rfl _ _ (by omega) (pw_cell_below hs1 HY.out.2.2.1), hc_ _ rfl _ _ (by omega) (pw_cell_below hs1 HY.out.2.2.2.1), hc_ _ rfl _ _ (by omega) (pw_cell_below hs1 HY.out.2.2.2.2.1), hc_ _ rfl _ _ (by omega) (pw_cell_below hs1 HY.out.2.2.2.2.2)⟩ (fun hk2 hs2 => ?_)
         refine pu 3 307 1199 ?_
         refine ta 4 308 1215 ?_
         have hl2 : w1.heap.size < w2.heap.size := World.block_lt_of_cell? _ _ hs2.2.1
         clear hb hc_ hs_
         refine rdy [6, 11] (rc 6 310 1279 hk2 hs2 (fields119 g' c' _ ds' ok' w2 HX.out.2.2.2.2.2.2.2.2.2 HX.out.2.2.2.2.2.1 (pw_cell_below hs2.1 HZZ.out.1) (HX.out.2.1.below (below_step HBW.out hs2.1))) (fun e w3 hR hs_ hb => ?_) (rb 11 23 3263 (.cells #[.string ⟨#[]⟩, .nilIface, .bool false, .slice none 0 0, .slice none 0 0] 61 (0, 0)) hk2 hs2 (fun w3 hz hg hs_ hb => ?_) rn) (hrun := inv_ rfl rfl (mf' _) (cf _ _)))
         ·obtain ⟨rfl, hc_⟩ := hR
          refine ⟨_, rfl, no 310 ?_⟩
          have gA3 := blk_below gA2 hb
          have hz3 := hb.size
          refine mp (fun w' => Un2 wr j nm nm' q q' p p' nb nb' w1.heap.size w2.heap.size w') ⟨hs_.1, hs_.2.1, hs_.2.2.1, hs_.2.2.2.1, hs_.2.2.2.2.1, hs_.2.2.2.2.2, hc_ _ rfl _ _ (by omega) (pw_cell_below hs2.1 HZZ.out.2.1), hc_ _ rfl _ _ (by omega) (pw_cell_below hs2.1 HZZ.out.2.2.1), hc_ _ rfl _ _ (by omega) (pw_cell_below hs2.1 HZZ.out.2.2.2.1), hc_ _ rfl _ _ (by omega) (pw_cell_below hs2.1 HZZ.out.2.2.2.2.1), hc_ _ rfl _ _ (by omega) (pw_cell_below hs2.1 HZZ.out.2.2.2.2.2)⟩ (fun hk3 hs3 => ?_)
          refine pu 8 312 1535 ?_
          refine ta 9 313 2047 ?_
          have hl3 : w2.heap.size < w3.heap.size := World.block_lt_of_cell? _ _ hs3.2.2.2.2.2.2.1
          clear hb hc_ hs_
          refine rdy [11] (rb 11 23 4095 (.cells #[.string ⟨#[]⟩, .nilIface, .bool false, .slice none 0 0, .slice none 0 0] 61 (0, 0)) hk3 hs3 (fun w4 hz hg hs_ hb => ?_) rn)
          ·refine no 23 ?_
           have gA4 := blk_below gA3 hb
           have gB4 := hg
           have hz4 : w4.heap.size ≤ w3.heap.size + 1 ∧ w3.heap.size + 1 ≤ w4.heap.size := by omega
           have hs4 := hs_
           clear hg hz hs_ hb
           refine norm_ ?_ (hj (w1.heap.size, w2.heap.size, w0.heap.size, w3.heap.size) w4 ⟨hs4, gA4, gB4, by dsimp only; omega⟩)
           simp only [putAll, Act.put, s1_, s2_, s3_, i64_w, i32_w] <;> rfl
         ·refine no 23 ?_
          have gA3 := blk_below gA2 hb
          have gB3 := hg
          have hz3 : w3.heap.size ≤ w2.heap.size + 1 ∧ w2.heap.size + 1 ≤ w3.heap.size := by omega
          have hs3 := hs_
          clear hg hz hs_ hb
          refine rdy [6] (rc 6 310 3327 hk2 hs3 (fields119 g' c' _ ds' ok' w3 HX.out.2.2.2.2.2.2.2.2.2 HX.out.2.2.2.2.2.1 (pw_cell_below hs3.1 HZZ.out.1) (HX.out.2.1.below (below_step HBW.out hs3.1))) (fun e w4 hR hs_ hb => ?_) rn (hrun := inv_ rfl rfl (mf' _) (cf _ _)))
          ·obtain ⟨rfl, hc_⟩ := hR
           refine ⟨_, rfl, no 310 ?_⟩
           have gA4 := blk_below gA3 hb
           have gB4 := blk_below gB3 hb
           have hz4 := hb.size
           refine mp (fun w' => Un2 wr j nm nm' q q' p p' nb nb' w1.heap.size w3.heap.size w') ⟨hs_.1, hs_.2.1, hs_.2.2.1, hs_.2.2.2.1, hs_.2.2.2.2.1, hs_.2.2.2.2.2, hc_ _ rfl _ _ (by omega) (pw_cell_below hs3.1 HZZ.out.2.1), hc_ _ rfl _ _ (by omega) (pw_cell_below hs3.1 HZZ.out.2.2.1), hc_ _ rfl _ _ (by omega) (pw_cell_below hs3.1 HZZ.out.2.2.2.1), hc_ _ rfl _ _ (by omega) (pw_cell_below hs3.1 HZZ.out.2.2.2.2.1), hc_ _ rfl _ _ (by omega) (pw_cell_below hs3.1 HZZ.out.2.2.2.2.2)⟩ (fun hk4 hs4 => ?_)
           refine pu 8 312 3583 ?_
           refine ta 9 313 4095 ?_
           have hl4 : w3.heap.size < w4.heap.size := World.block_lt_of_cell? _ _ hs4.2.2.2.2.2.2.1
           clear hb hc_ hs_
           refine norm_ ?_ (hj (w1.heap.size, w3.heap.size, w0.heap.size, w2.heap.size) w4 ⟨hs4, gA4, gB4, by dsimp only; omega⟩)
           simp only [putAll, Act.put, s1_, s2_, s3_, i64_w, i32_w] <;> rfl
        ·refine no 23 ?_
         have gA2 := blk_below gA1 hb
         have gB2 := hg
         have hz2 : w2.heap.size ≤ w1.heap.size + 1 ∧ w1.heap.size + 1 ≤ w2.heap.size := by omega
         have hs2 := hs_
         clear hg hz hs_ hb
         refine rdy [1] (rc 1 305 3239 hk0 hs2 (fields119 g c _ ds ok w2 HX.out.2.2.2.2.2.2.2.2.1 HX.out.2.2.2.2.1 (pw_cell_below hs2 HY.out.1) (HX.out.1.below (below_step HBW.out hs2))) (fun e w3 hR hs_ hb => ?_) rn (hrun := inv_ rfl rfl (mf _) (cf _ _)))
         ·obtain ⟨rfl, hc_⟩ := hR
          refine ⟨_, rfl, no 305 ?_⟩
          have gA3 := blk_below gA2 hb
          have gB3 := blk_below gB2 hb
          have hz3 := hb.size
          refine mp (fun w' => Un1 wr j nm q p nb w2.heap.size w') ⟨hs_, hc_ _ rfl _ _ (by omega) (pw_cell_below hs2 HY.out.2.1), hc_ _ rfl _ _ (by omega) (pw_cell_below hs2 HY.out.2.2.1), hc_ _ rfl _ _ (by omega) (pw_cell_below hs2 HY.out.2.2.2.1), hc_ _ rfl _ _ (by omega) (pw_cell_below hs2 HY.out.2.2.2.2.1), hc_ _ rfl _ _ (by omega) (pw_cell_below hs2 HY.out.2.2.2.2.2)⟩ (fun hk3 hs3 => ?_)
          refine pu 3 307 3247 ?_
          refine ta 4 308 3263 ?_
          have hl3 : w2.heap.size < w3.heap.size := World.block_lt_of_cell? _ _ hs3.2.1
          clear hb hc_ hs_
          refine rdy [6] (rc 6 310 3327 hk3 hs3 (fields119 g' c' _ ds' ok' w3 HX.out.2.2.2.2.2.2.2.2.2 HX.out.2.2.2.2.2.1 (pw_cell_below hs3.1 HZZ.out.1) (HX.out.2.1.below (below_step HBW.out hs3.1))) (fun e w4 hR hs_ hb => ?_) rn (hrun := inv_ rfl rfl (mf' _) (cf _ _)))
          ·obtain ⟨rfl, hc_⟩ := hR
           refine ⟨_, rfl, no 310 ?_⟩
           have gA4 := blk_below gA3 hb
           have gB4 := blk_below gB3 hb
           have hz4 := hb.size
           refine mp (fun w' => Un2 wr j nm nm' q q' p p' nb nb' w2.heap.size w3.heap.size w') ⟨hs_.1, hs_.2.1, hs_.2.2.1, hs_.2.2.2.1, hs_.2.2.2.2.1, hs_.2.2.2.2.2, hc_ _ rfl _ _ (by omega) (pw_cell_below hs3.1 HZZ.out.2.1), hc_ _ rfl _ _ (by omega) (pw_cell_below hs3.1 HZZ.out.2.2.1), hc_ _ rfl _ _ (by omega) (pw_cell_below hs3.1 HZZ.out.2.2.2.1), hc_ _ rfl _ _ (by omega) (pw_cell_below hs3.1 HZZ.out.2.2.2.2.1), hc_ _ rfl _ _ (by omega) (pw_cell_below hs3.1 HZZ.out.2.2.2.2.2)⟩ (fun hk4 hs4 => ?_)
           refine pu 8 312 3583 ?_
           refine ta 9 313 4095 ?_
           have hl4 : w3.heap.size < w4.heap.size := World.block_lt_of_cell? _ _ hs4.2.2.2.2.2.2.1
           clear hb hc_ hs_
           refine norm_ ?_ (hj (w2.heap.size, w3.heap.size, w0.heap.size, w1.heap.size) w4 ⟨hs4, gA4, gB4, by dsimp only; omega⟩)
           simp only [putAll, Act.put, s1_, s2_, s3_, i64_w, i32_w] <;> rfl
       ·refine no 23 ?_
        have gB1 := hg
        have hz1 : w1.heap.size ≤ w0.heap.size + 1 ∧ w0.heap.size + 1 ≤ w1.heap.size := by omega
        have hs1 := hs_
        clear hg hz hs_ hb
        refine rdy [1, 10] (rc 1 305 2215 hk0 hs1 (fields119 g c _ ds ok w1 HX.out.2.2.2.2.2.2.2.2.1 HX.out.2.2.2.2.1 (pw_cell_below hs1 HY.out.1) (HX.out.1.below (below_step HBW.out hs1))) (fun e w2 hR hs_ hb => ?_) (rb 10 22 3237 (.cells #[.string ⟨#[]⟩, .nilIface, .bool false, .slice none 0 0, .slice none 0 0] 61 (0, 0)) hk0 hs1 (fun w2 hz hg hs_ hb => ?_) rn) (hrun := inv_ rfl rfl (mf _) (cf _ _)))
        ·obtain ⟨rfl, hc_⟩ := hR
         refine ⟨_, rfl, no 305 ?_⟩
         have gB2 := blk_below gB1 hb
         have hz2 := hb.size
         refine mp (fun w' => Un1 wr j nm q p nb w1.heap.size w') ⟨hs_, hc_ _ rfl _ _ (by omega) (pw_cell_below hs1 HY.out.2.1), hc_ _ rfl _ _ (by omega) (pw_cell_below hs1 HY.out.2.2.1), hc_ _ rfl _ _ (by omega) (pw_cell_below hs1 HY.out.2.2.2.1), hc_ _ rfl _ _ (by omega) (pw_cell_below hs1 HY.out.2.2.2.2.1), hc_ _ rfl _ _ (by omega) (pw_cell_below hs1 HY.out.2.2.2.2.2)⟩ (fun hk2 hs2 => ?_)
         refine pu 3 307 2223 ?_
         refine ta 4 308 2239 ?_
         have hl2 : w1.heap.size < w2.heap.size := World.block_lt_of_cell? _ _ hs2.2.1
         clear hb hc_ hs_
         refine rdy [6, 10] (rc 6 310 2303 hk2 hs2 (fields119 g' c' _ ds' ok' w2 HX.out.2.2.2.2.2.2.2.2.2 HX.out.2.2.2.2.2.1 (pw_cell_below hs2.1 HZZ.out.1) (HX.out.2.1.below (below_step HBW.out hs2.1))) (fun e w3 hR hs_ hb => ?_) (rb 10 22 3263 (.cells #[.string ⟨#[]⟩, .nilIface, .bool false, .slice none 0 0, .slice none 0 0] 61 (0, 0)) hk2 hs2 (fun w3 hz hg hs_ hb => ?_) rn) (hrun := inv_ rfl rfl (mf' _) (cf _ _)))
         ·obtain ⟨rfl, hc_⟩ := hR
          refine ⟨_, rfl, no 310 ?_⟩
          have gB3 := blk_below gB2 hb
          have hz3 := hb.size
          refine mp (fun w' => Un2 wr j nm nm' q q' p p' nb nb' w1.heap.size w2.heap.size w') ⟨hs_.1, hs_.2.1, hs_.2.2.1, hs_.2.2.2.1, hs_.2.2.2.2.1, hs_.2.2.2.2.2, hc_ _ rfl _ _ (by omega) (pw_cell_below hs2.1 HZZ.out.2.1), hc_ _ rfl _ _ (by omega) (pw_cell_below hs2.1 HZZ.out.2.2.1), hc_ _ rfl _ _ (by omega) (pw_cell_below hs2.1 HZZ.out.2.2.2.1), hc_ _ rfl _ _ (by omega) (pw_cell_below hs2.1 HZZ.out.2.2.2.2.1), hc_ _ rfl _ _ (by omega) (pw_cell_below hs2.1 HZZ.out.2.2.2.2.2)⟩ (fun hk3 hs3 => ?_)
          refine pu 8 312 2559 ?_
          refine ta 9 313 3071 ?_
          have hl3 : w2.heap.size < w3.heap.size := World.block_lt_of_cell? _ _ hs3.2.2.2.2.2.2.1
          clear hb hc_ hs_
          refine rdy [10] (rb 10 22 4095 (.cells #[.string ⟨#[]⟩, .nilIface, .bool false, .slice none 0 0, .slice none 0 0] 61 (0, 0)) hk3 hs3 (fun w4 hz hg hs_ hb => ?_) rn)
          ·refine no 22 ?_
           have gB4 := blk_below gB3 hb
           have gA4 := hg
           have hz4 : w4.heap.size ≤ w3.heap.size + 1 ∧ w3.heap.size + 1 ≤ w4.heap.size := by omega
           have hs4 := hs_
           clear hg hz hs_ hb
           refine norm_ ?_ (hj (w1.heap.size, w2.heap.size, w3.heap.size, w0.heap.size) w4 ⟨hs4, gA4, gB4, by dsimp only; omega⟩)
           simp only [putAll, Act.put, s1_, s2_, s3_, i64_w, i32_w] <;> rfl
         ·refine no 22 ?_
          have gB3 := blk_below gB2 hb
          have gA3 := hg
          have hz3 : w3.heap.size ≤ w2.heap.size + 1 ∧ w2.heap.size + 1 ≤ w3.heap.size := by omega
          have hs3 := hs_
          clear hg hz hs_ hb
          refine rdy [6] (rc 6 310 3327 hk2 hs3 (fields119 g' c' _ ds' ok' w3 HX.out.2.2.2.2.2.2.2.2.2 HX.out.2.2.2.2.2.1 (pw_cell_below hs3.1 HZZ.out.1) (HX.out.2.1.below (below_step HBW.out hs3.1))) (fun e w4 hR hs_ hb => ?_) rn (hrun := inv_ rfl rfl (mf' _) (cf _ _)))
          ·obtain ⟨rfl, hc_⟩ := hR
           refine ⟨_, rfl, no 310 ?_⟩
           have gA4 := blk_below gA3 hb
           have gB4 := blk_below gB3 hb
           have hz4 := hb.size
           refine mp (fun w' => Un2 wr j nm nm' q q' p p' nb nb' w1.heap.size w3.heap.size w') ⟨hs_.1, hs_.2.1, hs_.2.2.1, hs_.2.2.2.1, hs_.2.2.2.2.1, hs_.2.2.2.2.2, hc_ _ rfl _ _ (by omega) (pw_cell_below hs3.1 HZZ.out.2.1), hc_ _ rfl _ _ (by omega) (pw_cell_below hs3.1 HZZ.out.2.2.1), hc_ _ rfl _ _ (by omega) (pw_cell_below hs3.1 HZZ.out.2.2.2.1), hc_ _ rfl _ _ (by omega) (pw_cell_below hs3.1 HZZ.out.2.2.2.2.1), hc_ _ rfl _ _ (by omega) (pw_cell_below hs3.1 HZZ.out.2.2.2.2.2)⟩ (fun hk4 hs4 => ?_)
           refine pu 8 312 3583 ?_
           refine ta 9 313 4095 ?_
           have hl4 : w3.heap.size < w4.heap.size := World.block_lt_of_cell? _ _ hs4.2.2.2.2.2.2.1
           clear hb hc_ hs_
           refine norm_ ?_ (hj (w1.heap.size, w3.heap.size, w2.heap.size, w0.heap.size) w4 ⟨hs4, gA4, gB4, by dsimp only; omega⟩)
           simp only [putAll, Act.put, s1_, s2_, s3_, i64_w, i32_w] <;> rfl
        ·refine no 22 ?_
         have gB2 := blk_below gB1 hb
         have gA2 := hg
         have hz2 : w2.heap.size ≤ w1.heap.size + 1 ∧ w1.heap.size + 1 ≤ w2.heap.size := by omega
         have hs2 := hs_
         clear hg hz hs_ hb
         refine rdy [1] (rc 1 305 3239 hk0 hs2 (fields119 g c _ ds ok w2 HX.out.2.2.2.2.2.2.2.2.1 HX.out.2.2.2.2.1 (pw_cell_below hs2 HY.out.1) (HX.out.1.below (below_step HBW.out hs2))) (fun e w3 hR hs_ hb => ?_) rn (hrun := inv_ rfl rfl (mf _) (cf _ _)))
         ·obtain ⟨rfl, hc_⟩ := hR
          refine ⟨_, rfl, no 305 ?_⟩
          have gA3 := blk_below gA2 hb
          have gB3 := blk_below gB2 hb
          have hz3 := hb.size
          refine mp (fun w' => Un1 wr j nm q p nb w2.heap.size w') ⟨hs_, hc_ _ rfl _ _ (by omega) (pw_cell_below hs2 HY.out.2.1), hc_ _ rfl _ _ (by omega) (pw_cell_below hs2 HY.out.2.2.1), hc_ _ rfl _ _ (by omega) (pw_cell_below hs2 HY.out.2.2.2.1), hc_ _ rfl _ _ (by omega) (pw_cell_below hs2 HY.out.2.2.2.2.1), hc_ _ rfl _ _ (by omega) (pw_cell_below hs2 HY.out.2.2.2.2.2)⟩ (fun hk3 hs3 => ?_)
          refine pu 3 307 3247 ?_
          refine ta 4 308 3263 ?_
          have hl3 : w2.heap.size < w3.heap.size := World.block_lt_of_cell? _ _ hs3.2.1
          clear hb hc_ hs_
          refine rdy [6] (rc 6 310 3327 hk3 hs3 (fields119 g' c' _ ds' ok' w3 HX.out.2.2.2.2.2.2.2.2.2 HX.out.2.2.2.2.2.1 (pw_cell_below hs3.1 HZZ.out.1) (HX.out.2.1.below (below_step HBW.out hs3.1))) (fun e w4 hR hs_ hb => ?_) rn (hrun := inv_ rfl rfl (mf' _) (cf _ _)))
          ·obtain ⟨rfl, hc_⟩ := hR
           refine ⟨_, rfl, no 310 ?_⟩
           have gA4 := blk_below gA3 hb
           have gB4 := blk_below gB3 hb
           have hz4 := hb.size
           refine mp (fun w' => Un2 wr j nm nm' q q' p p' nb nb' w2.heap.size w3.heap.size w') ⟨hs_.1, hs_.2.1, hs_.2.2.1, hs_.2.2.2.1, hs_.2.2.2.2.1, hs_.2.2.2.2.2, hc_ _ rfl _ _ (by omega) (pw_cell_below hs3.1 HZZ.out.2.1), hc_ _ rfl _ _ (by omega) (pw_cell_below hs3.1 HZZ.out.2.2.1), hc_ _ rfl _ _ (by omega) (pw_cell_below hs3.1 HZZ.out.2.2.2.1), hc_ _ rfl _ _ (by omega) (pw_cell_below hs3.1 HZZ.out.2.2.2.2.1), hc_ _ rfl _ _ (by omega) (pw_cell_below hs3.1 HZZ.out.2.2.2.2.2)⟩ (fun hk4 hs4 => ?_)
           refine pu 8 312 3583 ?_
           refine ta 9 313 4095 ?_
           have hl4 : w3.heap.size < w4.heap.size := World.block_lt_of_cell? _ _ hs4.2.2.2.2.2.2.1
           clear hb hc_ hs_
           refine norm_ ?_ (hj (w2.heap.size, w3.heap.size, w1.heap.size, w0.heap.size) w4 ⟨hs4, gA4, gB4, by dsimp only; omega⟩)
           simp only [putAll, Act.put, s1_, s2_, s3_, i64_w, i32_w] <;> rfl
      case rest =>
       obtain ⟨g1, g2, rfl, rfl, HCC⟩ := hcut
       have HK := Aside0.mk (show P → nm = nm' ∧ ty = ty' ∧ nb = nb' from fun h => by
        have e := (HP.out.1 h).1
        have e2 : DF.mk nm ty nb = DF.mk nm' ty' nb' := by rw [← HF.out.1, ← HF.out.2]; simp only [e]
        injection e2 with a1 a2 a3
        exact ⟨a1, a2, a3⟩)
       have HBC := Aside0.mk (below_step HBW.out HCC.out.2.2)
       clear mf mf' cf
       obtain ⟨c0, c1, c2, c3, c4⟩ := cb5 HCC.out.1
       obtain ⟨d0, d1, d2, d3, d4⟩ := cb5 HCC.out.2.1
       by_cases hn : nm = nm'
       rotate_left
       ·have qb : (nm.toList == nm'.toList) = false := by rw [beq_eq_false_iff_ne]; exact fun e => hn (toList_inj e)
        have HN := Aside0.mk hn
        clear hn
        go_wp2
        go_ret
        exact ⟨tells_no (fun h => HN.out (HK.out h).1), below_step HI.out.2.2.2.1 (below_step HB9.out (below_step HR.out.2.1 HCC.out.2.2))⟩
       have HN1 := Aside0.mk hn
       rw [← hn] at d0
       clear hn
       by_cases hb : nb = nb'
       rotate_left
       ·have qb : (nb == nb') = false := by rw [beq_eq_false_iff_ne]; exact hb
        have qb2 : (nb != nb') = true := by simpa using hb
        have HN := Aside0.mk hb
        clear hb
        go_wp2
        go_ret
        exact ⟨tells_no (fun h => HN.out (HK.out h).2.2), below_step HI.out.2.2.2.1 (below_step HB9.out (below_step HR.out.2.1 HCC.out.2.2))⟩
       have HN2 := Aside0.mk hb
       rw [← hb] at d2
       clear hb
       go_wp2_with (go_at_call 35; fail)
       refine (HT.out.2.2.2.2.1 _ _ ty ty' _ _ wc ok ok' A i HZ.out.2.2.1 HZ.out.2.2.2 (HZ.out.1.below HCC.out.2.2) (HZ.out.2.1.below HCC.out.2.2) HT.out.2.2.1 (HI.out.2.2.1.below HBC.out)).mono ?_
       rintro e x1 ⟨⟨r, rfl, hr⟩, hb1⟩
       have HRR := Aside0.mk hr
       have HX1 := Aside0.mk (below_step HCC.out.2.2 hb1)
       have HXc := Aside0.mk hb1
       clear hr hb1 c0 d0 c1 d1 c2 d2 c3 d3 c4 d4
       have k0 : x1.cell? ⟨w3.heap.size, 0, none⟩ = some (.bool mt) := (blk_cell (blk_below HI.out.2.2.2.2 (below_step HBW.out HX1.out)) 0).trans rfl
       obtain ⟨c0, c1, c2, c3, c4⟩ := cb5 (blk_below HCC.out.1 HXc.out)
       obtain ⟨d0, d1, d2, d3, d4⟩ := cb5 (blk_below HCC.out.2.1 HXc.out)
       obtain ⟨kj, hkj⟩ : ∃ k, ids[j]? = some k := ⟨_, List.getElem?_eq_getElem (by have := HX.out.2.2.2.2.2.2.1; omega)⟩
       obtain ⟨cb, carr, hSB, _, hcb, hca⟩ := HID.out.2.2.2.2.1 (by have := HX.out.2.2.2.2.2.2.1; omega)
       obtain ⟨cb', carr', hSB', _, hcb', hca'⟩ := HID.out.2.2.2.2.2 (by have := HX.out.2.2.2.2.2.2.2.1; omega)
       subst hSB
       subst hSB'
       have HCO := Aside0.mk (And.intro (And.intro hcb (hca j kj hkj)) (And.intro hcb' (hca' j kj (by rw [← HEQ.out]; exact hkj))))
       have ql : (j < ids.length) = True := eq_true (by have := HX.out.2.2.2.2.2.2.1; omega)
       have ql' : ((j : Int) < (ids.length : Int)) = True := eq_true (by have := HX.out.2.2.2.2.2.2.1; omega)
       have qm : (j < ids'.length) = True := eq_true (by have := HX.out.2.2.2.2.2.2.2.1; omega)
       have qm' : ((j : Int) < (ids'.length : Int)) = True := eq_true (by have := HX.out.2.2.2.2.2.2.2.1; omega)
       have mc := codes_at HU.out g
       have mc' := codes_at HU.out g'
       have cc := cf118
       clear hkj hcb hca hcb' hca'
       cases r with
       | false =>
        go_wp2
        go_ret
        exact ⟨tells_no (fun h => by have := HRR.out.2 (HK.out h).2.1; simp at this), below_step HI.out.2.2.2.1 (below_step HB9.out (below_step HR.out.2.1 HX1.out))⟩
       | true =>
        cases mt with
        | false =>
         clear c0 d0 c1 d1 c2 d2 
         go_upto_region 87 with fail
         have HBX := Aside0.mk (below_step HBW.out HX1.out)
         have e1_ : x1.cell? ⟨cb, j, none⟩ = some (.int .i8 kj) := (blk_cell (blk_below HCO.out.1.1 HBX.out) j).trans HCO.out.1.2
         have e2_ : x1.cell? ⟨cb', j, none⟩ = some (.int .i8 kj) := (blk_cell (blk_below HCO.out.2.1 HBX.out) j).trans HCO.out.2.2
         refine sd 12 (fun w' => Below x1.heap.size x1 w' ∧ w'.cell? ⟨cb, j, none⟩ = some (.int .i8 kj) ∧ w'.cell? ⟨cb', j, none⟩ = some (.int .i8 kj)) (fun hk w2 hs hb => ?_)
         clear e1_ e2_ hb
         refine pu 0 346 1 ?_
         refine pu 2 348 5 ?_
         refine pu 5 351 37 ?_
         refine pu 7 353 165 ?_
         refine rdy [1] (rc 1 347 167 hk hs (codes118 g _ ids.length ce w2 ((blk_cell (blk_below HG.out.1 (below_step HBX.out hs.1)) 1).trans rfl)) (fun e v1 hR hs1 hb1 => ?_) rn (hrun := inv_ rfl rfl (mc _) (cc _ _)))
         subst hR
         refine ⟨_, rfl, no 347 ?_⟩
         clear hs hb1
         refine pu 3 349 175 ?_
         refine ta 4 350 191 ?_
         refine rdy [6] (rc 6 352 255 hk hs1 (codes118 g' _ ids'.length ce' v1 ((blk_cell (blk_below HG.out.2.1 (below_step HBX.out hs1.1)) 1).trans rfl)) (fun e v2 hR hs2 hb2 => ?_) rn (hrun := inv_ rfl rfl (mc' _) (cc _ _)))
         subst hR
         refine ⟨_, rfl, no 352 ?_⟩
         clear hs1 hb2
         refine pu 8 354 511 ?_
         refine ta 9 355 1023 ?_
         refine pu 10 356 2047 ?_
         refine pu 11 345 4095 ?_
         refine done_ (by kernel_rfl) ?_
         have HE2 := Aside0.mk (below_step HR.out.2.1 (below_step HX1.out hs2.1))
         clear hs2 hk
         go_wp2
         go_roundg (ds.length - (j + 1))
         case measure => have := HR.out.1; omega
         case rel =>
          refine ⟨j + 1, by first | (rw [E1.out]) | go_num, ⟨⟨by have := HR.out.1; omega, HE2.out, fun k hk hk' hlt => ?_⟩⟩⟩
          by_cases hkj : k < j
          ·exact HR.out.2.2 k hk hk' hkj
          ·have e : k = j := by omega
           subst e
           rw [HF.out.1, HF.out.2, ← HN1.out, ← HN2.out, HRR.out.1 (by first | rfl | trivial)]
        | true =>
         go_wp2_with (go_at_call 52; fail)
         refine (meta52 x1).mono ?_
         rintro e x2 ⟨rfl, hb2⟩
         have HX2 := Aside0.mk (below_step HX1.out hb2)
         clear hb2 k0 c0 d0 c1 d1 c2 d2 c3 d3 c4 d4
         go_upto_region 87 with fail
         have HBX := Aside0.mk (below_step HBW.out HX2.out)
         have e1_ : x2.cell? ⟨cb, j, none⟩ = some (.int .i8 kj) := (blk_cell (blk_below HCO.out.1.1 HBX.out) j).trans HCO.out.1.2
         have e2_ : x2.cell? ⟨cb', j, none⟩ = some (.int .i8 kj) := (blk_cell (blk_below HCO.out.2.1 HBX.out) j).trans HCO.out.2.2
         refine sd 12 (fun w' => Below x2.heap.size x2 w' ∧ w'.cell? ⟨cb, j, none⟩ = some (.int .i8 kj) ∧ w'.cell? ⟨cb', j, none⟩ = some (.int .i8 kj)) (fun hk w2 hs hb => ?_)
         clear e1_ e2_ hb
         refine pu 0 346 1 ?_
         refine pu 2 348 5 ?_
         refine pu 5 351 37 ?_
         refine pu 7 353 165 ?_
         refine rdy [1] (rc 1 347 167 hk hs (codes118 g _ ids.length ce w2 ((blk_cell (blk_below HG.out.1 (below_step HBX.out hs.1)) 1).trans rfl)) (fun e v1 hR hs1 hb1 => ?_) rn (hrun := inv_ rfl rfl (mc _) (cc _ _)))
         subst hR
         refine ⟨_, rfl, no 347 ?_⟩
         clear hs hb1
         refine pu 3 349 175 ?_
         refine ta 4 350 191 ?_
         refine rdy [6] (rc 6 352 255 hk hs1 (codes118 g' _ ids'.length ce' v1 ((blk_cell (blk_below HG.out.2.1 (below_step HBX.out hs1.1)) 1).trans rfl)) (fun e v2 hR hs2 hb2 => ?_) rn (hrun := inv_ rfl rfl (mc' _) (cc _ _)))
         subst hR
         refine ⟨_, rfl, no 352 ?_⟩
         clear hs1 hb2
         refine pu 8 354 511 ?_
         refine ta 9 355 1023 ?_
         refine pu 10 356 2047 ?_
         refine pu 11 345 4095 ?_
         refine done_ (by kernel_rfl) ?_
         have HE2 := Aside0.mk (below_step HR.out.2.1 (below_step HX2.out hs2.1))
         clear hs2 hk
         go_wp2
         go_roundg (ds.length - (j + 1))
         case measure => have := HR.out.1; omega
         case rel =>
          refine ⟨j + 1, by first | (rw [E1.out]) | go_num, ⟨⟨by have := HR.out.1; omega, HE2.out, fun k hk hk' hlt => ?_⟩⟩⟩
          by_cases hkj : k < j
          ·exact HR.out.2.2 k hk hk' hkj
          ·have e : k = j := by omega
           subst e
           rw [HF.out.1, HF.out.2, ← HN1.out, ← HN2.out, HRR.out.1 (by first | rfl | trivial)]
end Go.Proofs.YteebgnhhjlgnjaaGreatDoor.V
