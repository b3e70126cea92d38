/- arrow.TypeEqual. -/
import Derived.Test.YteebgnhhjlgnjaaGreatDoorD0
import Derived.Test.YteebgnhhjlgnjaaGreatDoorFE
namespace Go.Proofs.YteebgnhhjlgnjaaGreatDoor.V
open Go.RowKit Go.Proofs.YteebgnhhjlgnjaaGreatDoorW.PrintWords Go.Proofs.YteebgnhhjlgnjaaGreatDoorW.PrintLast Go.Proofs.YteebgnhhjlgnjaaGreatDoorW.PrintMore
set_option maxHeartbeats 40000000
set_option maxRecDepth 100000
set_option linter.unusedVariables false
set_option linter.unusedSimpArgs false
def defL : List Nat := zeroT ++ [116, 120, 125, 145, 214, 217, 219, 221, 233, 236, 229]
def MpAt (w : World) (g : Nat) (q0 : Nat) (p0 : Value) (q1 : Nat) (p1 : Value) (fl : Bool) : Prop := ∃ b sg F c : Nat, w.cell? ⟨g, 0, none⟩ = some (.pointer (some ⟨b, 0, none⟩)) ∧ w.cell? ⟨g, 1, none⟩ = some (.bool fl) ∧ w.cell? ⟨b, 1, none⟩ = some (.iface 165 (.pointer (some ⟨sg, 0, none⟩))) ∧ w.cell? ⟨sg, 0, none⟩ = some (.slice (some ⟨F, 0, none⟩) 2 c) ∧ w.cell? ⟨F, 0, none⟩ = some (.string nmKey) ∧ w.cell? ⟨F, 1, none⟩ = some (.iface q0 p0) ∧ w.cell? ⟨F, 2, none⟩ = some (.bool false) ∧ w.cell? ⟨F, 3, none⟩ = some (.slice none 0 0) ∧ w.cell? ⟨F, 4, none⟩ = some (.slice none 0 0) ∧ w.cell? ⟨F, 5, none⟩ = some (.string nmValue) ∧ w.cell? ⟨F, 6, none⟩ = some (.iface q1 p1) ∧ w.cell? ⟨F, 7, none⟩ = some (.bool true) ∧ w.cell? ⟨F, 8, none⟩ = some (.slice none 0 0) ∧ w.cell? ⟨F, 9, none⟩ = some (.slice none 0 0)
theorem MpAt.below {w w' : World} {g q0 q1 : Nat} {p0 p1 : Value} {fl : Bool} (h : MpAt w g q0 p0 q1 p1 fl) (hb : Below w.heap.size w w') : MpAt w' g q0 p0 q1 p1 fl := by
 obtain ⟨b, sg, F, c, h0, h1, h2, h3, h4, h5, h6, h7, h8, h9, h10, h11, h12, h13⟩ := h
 exact ⟨b, sg, F, c, pw_cell_below hb h0, pw_cell_below hb h1, pw_cell_below hb h2, pw_cell_below hb h3, pw_cell_below hb h4, pw_cell_below hb h5, pw_cell_below hb h6, pw_cell_below hb h7, pw_cell_below hb h8, pw_cell_below hb h9, pw_cell_below hb h10, pw_cell_below hb h11, pw_cell_below hb h12, pw_cell_below hb h13⟩
theorem MpAt.sorted {w : World} {g q0 q1 : Nat} {p0 p1 : Value} {fl : Bool} (h : MpAt w g q0 p0 q1 p1 fl) : w.cell? ⟨g, 1, none⟩ = some (.bool fl) := by
 obtain ⟨b, sg, F, c, h0, h1, h2, h3, h4, h5, h6, h7, h8, h9, h10, h11, h12, h13⟩ := h
 exact h1
theorem MpAt.k67 {w : World} {g q0 q1 : Nat} {p0 p1 : Value} {fl : Bool} (h : MpAt w g q0 p0 q1 p1 fl) : Calls Tryz.prog 67 #[.pointer (some ⟨g, 0, none⟩)] w fun e w' => e = .returned (.iface q0 p0) ∧ Below w.heap.size w w' := by
 obtain ⟨b, sg, F, c, h0, h1, h2, h3, h4, h5, h6, h7, h8, h9, h10, h11, h12, h13⟩ := h
 exact maptype67 g b sg F c 0 .nilIface nmKey nmValue q0 q1 p0 p1 false true w h0 h2 h3 h4 h5 h6 h7 h8 h9 h10 h11 h12 h13
theorem MpAt.k68 {w : World} {g q0 q1 : Nat} {p0 p1 : Value} {fl : Bool} (h : MpAt w g q0 p0 q1 p1 fl) : Calls Tryz.prog 68 #[.pointer (some ⟨g, 0, none⟩)] w fun e w' => e = .returned (.iface q1 p1) ∧ Below w.heap.size w w' := by
 obtain ⟨b, sg, F, c, h0, h1, h2, h3, h4, h5, h6, h7, h8, h9, h10, h11, h12, h13⟩ := h
 exact maptype68 g b sg F c 0 .nilIface nmKey nmValue q0 q1 p0 p1 false true w h0 h2 h3 h4 h5 h6 h7 h8 h9 h10 h11 h12 h13
theorem MpAt.k69 {w : World} {g q0 q1 : Nat} {p0 p1 : Value} {fl : Bool} (h : MpAt w g q0 p0 q1 p1 fl) : Calls Tryz.prog 69 #[.pointer (some ⟨g, 0, none⟩)] w fun e w' => e = .returned (.agg #[.string nmKey, .iface q0 p0, .bool false, .slice none 0 0, .slice none 0 0]) ∧ Below w.heap.size w w' := by
 obtain ⟨b, sg, F, c, h0, h1, h2, h3, h4, h5, h6, h7, h8, h9, h10, h11, h12, h13⟩ := h
 exact mapfield69 g b sg F c 0 .nilIface nmKey nmValue q0 q1 p0 p1 false true w h0 h2 h3 h4 h5 h6 h7 h8 h9 h10 h11 h12 h13
theorem MpAt.k70 {w : World} {g q0 q1 : Nat} {p0 p1 : Value} {fl : Bool} (h : MpAt w g q0 p0 q1 p1 fl) : Calls Tryz.prog 70 #[.pointer (some ⟨g, 0, none⟩)] w fun e w' => e = .returned (.agg #[.string nmValue, .iface q1 p1, .bool true, .slice none 0 0, .slice none 0 0]) ∧ Below w.heap.size w w' := by
 obtain ⟨b, sg, F, c, h0, h1, h2, h3, h4, h5, h6, h7, h8, h9, h10, h11, h12, h13⟩ := h
 exact mapfield70 g b sg F c 0 .nilIface nmKey nmValue q0 q1 p0 p1 false true w h0 h2 h3 h4 h5 h6 h7 h8 h9 h10 h11 h12 h13
theorem MpAt.of {w : World} {ok : Nat → Prop} {dk dv : DT} {fl : Bool} {v : Value} (h : DTIn w ok (.map (.mk nmEntries (.struct [.mk nmKey dk false, .mk nmValue dv true]) false) fl) v) :
 ∃ g q0 p0 q1 p1, v = .iface 161 (.pointer (some ⟨g, 0, none⟩)) ∧ MpAt w g q0 p0 q1 p1 fl ∧ DTIn w ok dk (.iface q0 p0) ∧ DTIn w ok dv (.iface q1 p1) := by
 simp only [DTIn, DFIn, ptrAt] at h
 obtain ⟨g, b, cs, rfl, hk, hkb, hg0, hg, x, rfl, sg, A, c, m, rfl, hk2, hg2, hc1, hc2, hr⟩ := h
 have hF : FsAt w ok A [.mk nmKey dk false, .mk nmValue dv true] := fun h0 => by
  obtain ⟨bb, arr, h1, h2, h3, h4⟩ := hr (by simp)
  exact ⟨bb, arr, h1, h2, h3, by simpa [DFsIn, DFIn] using h4⟩
 obtain ⟨F, x0, hA, hx0, a0, a1, a2, a3, a4⟩ := hF.get 0 (by simp)
 obtain ⟨F', x1, hA', hx1, b0, b1, b2, b3, b4⟩ := hF.get 1 (by simp)
 rw [hA] at hA'
 injection hA' with hA'
 injection hA' with hA'
 subst hA'
 obtain ⟨q0, e0, rfl⟩ := hx0.form
 obtain ⟨q1, e1, rfl⟩ := hx1.form
 subst hA
 exact ⟨g, q0, _, q1, _, rfl, ⟨b, sg, F, c, (blk_cell hg0 0).trans rfl, (blk_cell hg0 1).trans rfl, (blk_cell hg 1).trans rfl, (blk_cell hg2 0).trans rfl, a0, a1, a2, a3, a4, b0, b1, b2, b3, b4⟩, hx0, hx1⟩
theorem te35 (n : Nat) (hD : DpC (n + 1)) (hE : TeC n) (hF : FeC n) (T T' : S28) (d d' : DT) (v v' : Value) (w : World) (ok ok' : Nat → Prop) (A : Option Addr) (m : Nat) (hTD : TD (n + 1) T d) (hTD' : TD (n + 1) T' d') (hI : DTIn w ok d v) (hI' : DTIn w ok' d' v') (hdis : ∀ k, ok k → ok' k → False) (hO : OptAt w A m) (hnu : ¬ (tyN d = 224 ∨ tyN d = 226)) :
 Calls Tryz.prog 35 #[v, v', .slice A m m] w fun e w' => Tells e (d = d') ∧ Below w.heap.size w w' := by
 have HNU := Aside0.mk hnu
 clear hnu
 obtain ⟨bb, w1, hq, hbb, hw1⟩ := root_eq hI hI' hdis
 have hb1 : Below w.heap.size w w1 := by rcases hw1 with rfl | rfl; exact Below.refl _ _; exact b3_ (Below.refl _ _)
 obtain ⟨a, rfl, f, x, m1, c1, k1⟩ := id_any (hI.below hb1)
 obtain ⟨a', rfl, _⟩ := id_any hI'
 obtain ⟨P, hP⟩ : ∃ P : Prop, P = (d = d') := ⟨_, rfl⟩
 rw [← hP]
 have HT := Aside0.mk (And.intro hTD (And.intro hTD' (And.intro hdis (And.intro hD (And.intro hE hF)))))
 have HB := Aside0.mk hb1
 have HI := Aside0.mk (And.intro (hI.below hb1) (And.intro (hI'.below hb1) (hO.below hb1)))
 have HBB := Aside0.mk (show bb = true → P from fun e => by rw [hP]; exact hbb e)
 have HPP := Aside0.mk hP
 have K1 := Aside0.mk k1
 clear hTD hTD' hI hI' hdis hO hw1 hbb hb1 hD hE hF k1 hP
 cases bb with
 | true =>
  go_enter Tryz.func35, Tryz.ntmps35
  go_wp2
  go_ret
  exact ⟨tells_yes (HBB.out (by first | rfl | trivial)), HB.out⟩
 | false =>
  go_enter Tryz.func35, Tryz.ntmps35
  go_wp2
  refine K1.out.mono ?_
  rintro e w2 ⟨rfl, hb2⟩
  have HB2 := Aside0.mk hb2
  obtain ⟨a2, e2, f2, x2, m2, c2, k2⟩ := id_any (HI.out.2.1.below hb2)
  obtain ⟨_, rfl⟩ := (show _ ∧ a' = a2 by injection e2 with e3 e4; injection e4 with e5; injection e5 with e6; exact ⟨trivial, e6⟩)
  have K2 := Aside0.mk k2
  clear k2 e2 m1 c1 K1 hb2 hq
  go_wp2
  refine K2.out.mono ?_
  rintro e w3 ⟨rfl, hb3⟩
  have HI3 := Aside0.mk (And.intro (HI.out.1.below (below_step HB2.out hb3)) (And.intro (HI.out.2.1.below (below_step HB2.out hb3)) (HI.out.2.2.below (below_step HB2.out hb3))))
  have HB3 := Aside0.mk (below_step (below_step HB.out HB2.out) hb3)
  clear hb3 m2 c2 HB2 HI HB K2 HBB
  by_cases hty : tyN d = tyN d'
  rotate_left
  ·have hne : idN (tyN d) ≠ idN (tyN d') := fun e => hty (idN_inj _ _ (ty_mem HI3.out.1) (ty_mem HI3.out.2.1) e)
   have q1 : decide (idN (tyN d) = idN (tyN d')) = false := decide_eq_false hne
   have q2 : (idN (tyN d) = idN (tyN d')) = False := eq_false hne
   have q3 : (idN (tyN d) != idN (tyN d')) = true := by simpa using hne
   have HNE := Aside0.mk hty
   clear hne hty
   go_wp2
   go_ret
   exact ⟨tells_no (fun h => HNE.out (congrArg tyN (HPP.out.mp h))), HB3.out⟩
  have HTY := Aside0.mk hty
  rw [← hty]
  clear hty
  go_wp2
  have hm1 : m ≤ 1 := by rcases HI3.out.2.2 with h | h <;> omega
  have HM := Aside0.mk hm1
  clear hm1
  go_loopg [49] m (fun kq v49 wr => ∃ i : Nat, v49 = .int .i64 (i : Int) ∧ Aside0 (i + kq = m ∧ Below w3.heap.size w3 wr ∧ ∃ mt, wr.heap[w3.heap.size]? = some (.cells #[.bool mt] 152 (0, 0))))
  case atStart => exact ⟨0, rfl, ⟨⟨by omega, (Below.refl _ _).alloc (Nat.le_refl _) _, false, blk_new _ _⟩⟩⟩
  case round =>
   obtain ⟨i, rfl, HR⟩ := hrel
   by_cases hi : i < m
   ·rcases HI3.out.2.2 with ⟨h0, _⟩ | ⟨h0, g, hA, hg⟩
    ·omega
    ·obtain rfl : m = 1 := h0
     obtain rfl : i = 0 := by omega
     subst hA
     obtain ⟨h1, h2, mt, h3⟩ := HR.out
     have hc0 : wr.cell? ⟨g, 0, none⟩ = some (.func (.func 74) #[] #[]) := (blk_cell (blk_below hg h2) 0).trans rfl
     have hc1 : wr.cell? ⟨w3.heap.size, 0, none⟩ = some (.bool mt) := (blk_cell h3 0).trans rfl
     have hf1 := blk_frozen h3 0
     have HR2 := Aside0.mk (And.intro h2 h3)
     clear h1 h2 h3 hg hi
     go_wp2
     go_roundg 0
     case measure => have := HR.out.1; omega
     case rel =>
      refine ⟨1, by first | rfl | go_num, ⟨⟨by omega, ?_, true, ?_⟩⟩⟩
      ·exact Below.setCell HR2.out.1 (Nat.le_refl _) _
      ·exact blk_put_at HR2.out.2 rfl
   ·have hi0 : i = m := by have := HR.out.1; omega
    subst hi0
    obtain ⟨h1, h2, mt, h3⟩ := HR.out
    have k0 : wr.cell? ⟨w3.heap.size, 0, none⟩ = some (.bool mt) := (blk_cell h3 0).trans rfl
    have HI := Aside0.mk (And.intro (HI3.out.1.below h2) (And.intro (HI3.out.2.1.below h2) (And.intro (HI3.out.2.2.below h2) (And.intro (below_step HB3.out h2) h3))))
    clear h1 h2 h3 hi HI3 HB3 HR
    by_cases hdf : tyN d ∈ defL
    ·have hne : ∀ k, defL.contains k = false → tyN d ≠ k := fun k hk e => by rw [e] at hdf; have := List.contains_iff_mem.mpr hdf; rw [hk] at this; cases this
     have hn154 : ∀ W, (Instr.typeAssert (.iface (tyN d) (.pointer (some a))) 56 154 true).run Tryz.prog W = .ok (.tuple #[.pointer none, .bool false]) W := asn_154 _ _ (hne 154 (by decide))
     have hn158 : ∀ W, (Instr.typeAssert (.iface (tyN d) (.pointer (some a))) 56 158 true).run Tryz.prog W = .ok (.tuple #[.pointer none, .bool false]) W := asn_158 _ _ (hne 158 (by decide))
     have hn161 : ∀ W, (Instr.typeAssert (.iface (tyN d) (.pointer (some a))) 56 161 true).run Tryz.prog W = .ok (.tuple #[.pointer none, .bool false]) W := asn_161 _ _ (hne 161 (by decide))
     have hn165 : ∀ W, (Instr.typeAssert (.iface (tyN d) (.pointer (some a))) 56 165 true).run Tryz.prog W = .ok (.tuple #[.pointer none, .bool false]) W := asn_165 _ _ (hne 165 (by decide))
     have hnu : ∀ W, (Instr.typeAssert (.iface (tyN d) (.pointer (some a))) 56 169 true).run Tryz.prog W = .ok (.tuple #[.nilIface, .bool false]) W := asn_un (tyN d) _ (ty_mem HI.out.1) (hne 224 (by decide)) (hne 226 (by decide))
     have hn122 : ∀ W, (Instr.typeAssert (.iface (tyN d) (.pointer (some a))) 56 122 true).run Tryz.prog W = .ok (.tuple #[.pointer none, .bool false]) W := asn_122 _ _ (hne 122 (by decide))
     have hn177 : ∀ W, (Instr.typeAssert (.iface (tyN d) (.pointer (some a))) 56 177 true).run Tryz.prog W = .ok (.tuple #[.pointer none, .bool false]) W := asn_177 _ _ (hne 177 (by decide))
     have hn180 : ∀ W, (Instr.typeAssert (.iface (tyN d) (.pointer (some a))) 56 180 true).run Tryz.prog W = .ok (.tuple #[.pointer none, .bool false]) W := asn_180 _ _ (hne 180 (by decide))
     clear hne hdf
     go_wp2_with (go_at_call 73; fail)
     have hI2 : DTIn wr ok' d' (.iface (tyN d) (.pointer (some a'))) := by rw [HTY.out]; exact HI.out.2.1
     refine (HT.out.2.2.2.1 T T' d d' _ _ wr ok ok' HT.out.1 HT.out.2.1 HI.out.1 hI2 HT.out.2.2.1).mono ?_
     clear hI2
     rintro e w5 ⟨⟨r, rfl, hr⟩, hb5⟩
     have HRR := Aside0.mk hr
     have HB5 := Aside0.mk (below_step HI.out.2.2.2.1 hb5)
     clear hr hb5
     go_wp2
     go_ret
     exact ⟨⟨r, rfl, by rw [HPP.out]; exact HRR.out⟩, HB5.out⟩
    have h : tyN d ∈ [154, 158, 161, 165, 224, 226, 122, 177, 180] := by
     have key : (idTab.map (·.1)).all (fun t => defL.contains t || [154, 158, 161, 165, 224, 226, 122, 177, 180].contains t) = true := by decide
     have h1 := List.all_eq_true.mp key _ (ty_mem HI.out.1)
     rw [Bool.or_eq_true] at h1
     rcases h1 with h1 | h1
     ·exact absurd (List.contains_iff_mem.mp h1) hdf
     ·exact List.contains_iff_mem.mp h1
    clear hdf
    simp only [List.mem_cons, List.not_mem_nil, or_false] at h
    rcases h with h | h | h | h | h | h | h | h | h
    ·
     as_aux_lemma =>
      rw [h]
      have h' : tyN d' = 154 := HTY.out.symm.trans h
      obtain ⟨T1, d1, rfl, hs⟩ := TDs.list_of (show TDs (TD n) T d from HT.out.1) h (by decide)
      obtain ⟨T2, d2, rfl, hs'⟩ := TDs.list_of (show TDs (TD n) T' d' from HT.out.2.1) h' (by decide)
      have hI := HI.out.1
      have hI' := HI.out.2.1
      simp only [DTIn, DFIn, ptrAt] at hI hI'
      obtain ⟨_, g, cs, e, hk, hg, x, rfl, hx⟩ := hI
      obtain ⟨_, g', cs', e', hk', hg', x', rfl, hx'⟩ := hI'
      obtain rfl : a = ⟨g, 0, none⟩ := by injection e with _ e1; injection e1 with e2; injection e2
      obtain rfl : a' = ⟨g', 0, none⟩ := by injection e' with _ e1; injection e1 with e2; injection e2
      obtain ⟨q, a_, rfl⟩ := hx.form
      obtain ⟨p, hp⟩ : ∃ p, p = Value.pointer (some a_) := ⟨_, rfl⟩
      rw [← hp] at hx hg
      clear hp
      obtain ⟨q', a'_, rfl⟩ := hx'.form
      obtain ⟨p', hp'⟩ : ∃ p, p = Value.pointer (some a'_) := ⟨_, rfl⟩
      rw [← hp'] at hx' hg'
      clear hp'
      have HP := Aside0.mk (show P ↔ d1 = d2 from by rw [HPP.out]; simp)
      have HX := Aside0.mk (And.intro hx (And.intro hx' (And.intro hs hs')))
      obtain ⟨y0, y1, y2, y3, y4⟩ := cb5 hg
      obtain ⟨z0, z1, z2, z3, z4⟩ := cb5 hg'
      clear e e' hx hx' hs hs' hk hk' hg hg' h h'
      have hy : ∀ W, (Instr.typeAssert (.iface 154 (.pointer (some ⟨g, 0, none⟩))) 56 154 true).run Tryz.prog W = .ok (.tuple #[.pointer (some ⟨g, 0, none⟩), .bool true]) W := asy_154 _
      have hy' : ∀ W, (Instr.typeAssert (.iface 154 (.pointer (some ⟨g', 0, none⟩))) 56 154 false).run Tryz.prog W = .ok (.pointer (some ⟨g', 0, none⟩)) W := aso_154 _
      go_upto_region 18 with fail
      refine start_ (n := 8) (S := fun w' => w'.cell? ⟨w3.heap.size, 0, none⟩ = some (.bool mt) ∧ w'.cell? ⟨g, 0, none⟩ = some (.string nmItem) ∧ w'.cell? ⟨g, 1, none⟩ = some (.iface q p) ∧ w'.cell? ⟨g, 2, none⟩ = some (.bool true) ∧ w'.cell? ⟨g, 3, none⟩ = some (.slice none 0 0) ∧ w'.cell? ⟨g, 4, none⟩ = some (.slice none 0 0) ∧ w'.cell? ⟨g', 0, none⟩ = some (.string nmItem) ∧ w'.cell? ⟨g', 1, none⟩ = some (.iface q' p') ∧ w'.cell? ⟨g', 2, none⟩ = some (.bool true) ∧ w'.cell? ⟨g', 3, none⟩ = some (.slice none 0 0) ∧ w'.cell? ⟨g', 4, none⟩ = some (.slice none 0 0)) (ds := []) (ba 8 0) (by kernel_rfl) rfl rfl ⟨k0, y0, y1, y2, y3, y4, z0, z1, z2, z3, z4⟩ (fun hHeld => ?_)
      generalize hw_ : wr.drew = u1_0 at hHeld ⊢
      have Hu1_0 := Aside0.mk (show Below wr.heap.size wr u1_0 from by rw [← hw_]; exact b3_ (Below.refl _ _))
      clear hw_
      clear k0 y0 y1 y2 y3 y4 z0 z1 z2 z3 z4
      have Su1_0 := Aside0.mk hHeld
      refine pu 0 63 1 ?_
      refine pu 2 65 5 ?_
      refine pu 3 66 13 ?_
      refine pu 5 68 45 ?_
      refine one_ (i := 1) (N := some 64) (ba 8 47) rfl rfl (by kernel_rfl) (by decide) (fun K hK => ?_)
      refine goes_ Tryz.func65 (by kernel_rfl) rfl #[.pointer (some ⟨g, 0, none⟩)] (by rfl) rfl rfl (by (try simp only [List.map_toArray, List.map_cons, List.map_nil]); first | done | rfl) ?_
      refine (elem65 g _ u1_0 (Su1_0.out.2.2.1)).mono ?_
      rintro e u1_1 ⟨rfl, hb⟩
      have Hu1_1 := Aside0.mk (below_step Hu1_0.out hb)
      have Su1_1 := Aside0.mk (show u1_1.cell? ⟨w3.heap.size, 0, none⟩ = some (.bool mt) ∧ u1_1.cell? ⟨g, 0, none⟩ = some (.string nmItem) ∧ u1_1.cell? ⟨g, 1, none⟩ = some (.iface q p) ∧ u1_1.cell? ⟨g, 2, none⟩ = some (.bool true) ∧ u1_1.cell? ⟨g, 3, none⟩ = some (.slice none 0 0) ∧ u1_1.cell? ⟨g, 4, none⟩ = some (.slice none 0 0) ∧ u1_1.cell? ⟨g', 0, none⟩ = some (.string nmItem) ∧ u1_1.cell? ⟨g', 1, none⟩ = some (.iface q' p') ∧ u1_1.cell? ⟨g', 2, none⟩ = some (.bool true) ∧ u1_1.cell? ⟨g', 3, none⟩ = some (.slice none 0 0) ∧ u1_1.cell? ⟨g', 4, none⟩ = some (.slice none 0 0) from ⟨pw_cell_below hb Su1_0.out.1, pw_cell_below hb Su1_0.out.2.1, pw_cell_below hb Su1_0.out.2.2.1, pw_cell_below hb Su1_0.out.2.2.2.1, pw_cell_below hb Su1_0.out.2.2.2.2.1, pw_cell_below hb Su1_0.out.2.2.2.2.2.1, pw_cell_below hb Su1_0.out.2.2.2.2.2.2.1, pw_cell_below hb Su1_0.out.2.2.2.2.2.2.2.1, pw_cell_below hb Su1_0.out.2.2.2.2.2.2.2.2.1, pw_cell_below hb Su1_0.out.2.2.2.2.2.2.2.2.2.1, pw_cell_below hb Su1_0.out.2.2.2.2.2.2.2.2.2.2⟩)
      clear hb
      refine ⟨_, rfl, ?_⟩
      refine hK.out _ _ Su1_1.out (fun hHeld => ?_)
      clear hK K
      refine no 64 ?_
      refine one_ (i := 4) (N := some 67) (ba 8 63) rfl rfl (by kernel_rfl) (by decide) (fun K hK => ?_)
      refine goes_ Tryz.func65 (by kernel_rfl) rfl #[.pointer (some ⟨g', 0, none⟩)] (by rfl) rfl rfl (by (try simp only [List.map_toArray, List.map_cons, List.map_nil]); first | done | rfl) ?_
      refine (elem65 g' _ u1_1 (Su1_1.out.2.2.2.2.2.2.2.1)).mono ?_
      rintro e u1_2 ⟨rfl, hb⟩
      have Hu1_2 := Aside0.mk (below_step Hu1_1.out hb)
      have Su1_2 := Aside0.mk (show u1_2.cell? ⟨w3.heap.size, 0, none⟩ = some (.bool mt) ∧ u1_2.cell? ⟨g, 0, none⟩ = some (.string nmItem) ∧ u1_2.cell? ⟨g, 1, none⟩ = some (.iface q p) ∧ u1_2.cell? ⟨g, 2, none⟩ = some (.bool true) ∧ u1_2.cell? ⟨g, 3, none⟩ = some (.slice none 0 0) ∧ u1_2.cell? ⟨g, 4, none⟩ = some (.slice none 0 0) ∧ u1_2.cell? ⟨g', 0, none⟩ = some (.string nmItem) ∧ u1_2.cell? ⟨g', 1, none⟩ = some (.iface q' p') ∧ u1_2.cell? ⟨g', 2, none⟩ = some (.bool true) ∧ u1_2.cell? ⟨g', 3, none⟩ = some (.slice none 0 0) ∧ u1_2.cell? ⟨g', 4, none⟩ = some (.slice none 0 0) from ⟨pw_cell_below hb Su1_1.out.1, pw_cell_below hb Su1_1.out.2.1, pw_cell_below hb Su1_1.out.2.2.1, pw_cell_below hb Su1_1.out.2.2.2.1, pw_cell_below hb Su1_1.out.2.2.2.2.1, pw_cell_below hb Su1_1.out.2.2.2.2.2.1, pw_cell_below hb Su1_1.out.2.2.2.2.2.2.1, pw_cell_below hb Su1_1.out.2.2.2.2.2.2.2.1, pw_cell_below hb Su1_1.out.2.2.2.2.2.2.2.2.1, pw_cell_below hb Su1_1.out.2.2.2.2.2.2.2.2.2.1, pw_cell_below hb Su1_1.out.2.2.2.2.2.2.2.2.2.2⟩)
      clear hb
      refine ⟨_, rfl, ?_⟩
      refine hK.out _ _ Su1_2.out (fun hHeld => ?_)
      clear hK K
      refine no 67 ?_
      refine one_ (i := 6) (N := some 69) (ba 8 127) rfl rfl (by kernel_rfl) (by decide) (fun K hK => ?_)
      refine goes_ Tryz.func35 (by kernel_rfl) rfl #[.iface q p, .iface q' p', .slice A i i] (by rfl) rfl rfl (by (try simp only [List.map_toArray, List.map_cons, List.map_nil]); first | done | rfl) ?_
      refine (HT.out.2.2.2.2.1 _ _ d1 d2 _ _ u1_2 ok ok' A i HX.out.2.2.1 HX.out.2.2.2 (HX.out.1.below (Hu1_2.out)) (HX.out.2.1.below (Hu1_2.out)) HT.out.2.2.1 (HI.out.2.2.1.below (Hu1_2.out))).mono ?_
      rintro e u1_3 ⟨⟨r, rfl, hr⟩, hb⟩
      have Hu1_3 := Aside0.mk (below_step Hu1_2.out hb)
      have Su1_3 := Aside0.mk (show u1_3.cell? ⟨w3.heap.size, 0, none⟩ = some (.bool mt) ∧ u1_3.cell? ⟨g, 0, none⟩ = some (.string nmItem) ∧ u1_3.cell? ⟨g, 1, none⟩ = some (.iface q p) ∧ u1_3.cell? ⟨g, 2, none⟩ = some (.bool true) ∧ u1_3.cell? ⟨g, 3, none⟩ = some (.slice none 0 0) ∧ u1_3.cell? ⟨g, 4, none⟩ = some (.slice none 0 0) ∧ u1_3.cell? ⟨g', 0, none⟩ = some (.string nmItem) ∧ u1_3.cell? ⟨g', 1, none⟩ = some (.iface q' p') ∧ u1_3.cell? ⟨g', 2, none⟩ = some (.bool true) ∧ u1_3.cell? ⟨g', 3, none⟩ = some (.slice none 0 0) ∧ u1_3.cell? ⟨g', 4, none⟩ = some (.slice none 0 0) from ⟨pw_cell_below hb Su1_2.out.1, pw_cell_below hb Su1_2.out.2.1, pw_cell_below hb Su1_2.out.2.2.1, pw_cell_below hb Su1_2.out.2.2.2.1, pw_cell_below hb Su1_2.out.2.2.2.2.1, pw_cell_below hb Su1_2.out.2.2.2.2.2.1, pw_cell_below hb Su1_2.out.2.2.2.2.2.2.1, pw_cell_below hb Su1_2.out.2.2.2.2.2.2.2.1, pw_cell_below hb Su1_2.out.2.2.2.2.2.2.2.2.1, pw_cell_below hb Su1_2.out.2.2.2.2.2.2.2.2.2.1, pw_cell_below hb Su1_2.out.2.2.2.2.2.2.2.2.2.2⟩)
      have HRR := Aside0.mk hr
      clear hr
      clear hb
      refine ⟨_, rfl, ?_⟩
      refine hK.out _ _ Su1_3.out (fun hHeld => ?_)
      clear hK K
      refine no 69 ?_
      refine pu 7 70 255 ?_
      refine done_ (by kernel_rfl) ?_
      clear hHeld
      have k0 := Su1_3.out.1
      have y0 := Su1_3.out.2.1
      have y1 := Su1_3.out.2.2.1
      have y2 := Su1_3.out.2.2.2.1
      have y3 := Su1_3.out.2.2.2.2.1
      have y4 := Su1_3.out.2.2.2.2.2.1
      have z0 := Su1_3.out.2.2.2.2.2.2.1
      have z1 := Su1_3.out.2.2.2.2.2.2.2.1
      have z2 := Su1_3.out.2.2.2.2.2.2.2.2.1
      have z3 := Su1_3.out.2.2.2.2.2.2.2.2.2.1
      have z4 := Su1_3.out.2.2.2.2.2.2.2.2.2.2
      have HB1 := Aside0.mk (below_step HI.out.2.2.2.1 Hu1_3.out)
      cases r with
      | false =>
       go_wp2
       go_ret
       exact ⟨tells_no (fun h => by have := HRR.out.2 (HP.out.1 h); simp at this), HB1.out⟩
      | true =>
       clear Su1_3 Hu1_3
       cases mt with
       | false =>
        go_upto_region 20 with fail
        refine start_ (n := 17) (S := fun w' => w'.cell? ⟨w3.heap.size, 0, none⟩ = some (.bool false) ∧ w'.cell? ⟨g, 0, none⟩ = some (.string nmItem) ∧ w'.cell? ⟨g, 1, none⟩ = some (.iface q p) ∧ w'.cell? ⟨g, 2, none⟩ = some (.bool true) ∧ w'.cell? ⟨g, 3, none⟩ = some (.slice none 0 0) ∧ w'.cell? ⟨g, 4, none⟩ = some (.slice none 0 0) ∧ w'.cell? ⟨g', 0, none⟩ = some (.string nmItem) ∧ w'.cell? ⟨g', 1, none⟩ = some (.iface q' p') ∧ w'.cell? ⟨g', 2, none⟩ = some (.bool true) ∧ w'.cell? ⟨g', 3, none⟩ = some (.slice none 0 0) ∧ w'.cell? ⟨g', 4, none⟩ = some (.slice none 0 0)) (ds := []) (ba 17 0) (by kernel_rfl) rfl rfl ⟨k0, y0, y1, y2, y3, y4, z0, z1, z2, z3, z4⟩ (fun hHeld => ?_)
        generalize hw_ : u1_3.drew = u2_0 at hHeld ⊢
        have Hu2_0 := Aside0.mk (show Below u1_3.heap.size u1_3 u2_0 from by rw [← hw_]; exact b3_ (Below.refl _ _))
        clear hw_
        clear k0 y0 y1 y2 y3 y4 z0 z1 z2 z3 z4
        have Su2_0 := Aside0.mk hHeld
        refine pu 0 71 1 ?_
        refine ta 1 72 3 ?_
        refine pu 2 73 7 ?_
        refine ou 3 74 15 ?_
        refine ou 4 75 31 ?_
        refine ou 5 76 63 ?_
        refine ou 6 77 127 ?_
        refine ou 7 78 255 ?_
        refine ou 8 79 511 ?_
        refine ou 9 80 1023 ?_
        refine ou 10 81 2047 ?_
        refine ou 11 82 4095 ?_
        refine ou 12 83 8191 ?_
        refine ou 13 84 16383 ?_
        refine ou 14 85 32767 ?_
        refine ou 15 86 65535 ?_
        refine pu 16 87 131071 ?_
        refine done_ (by kernel_rfl) ?_
        clear hHeld
        have k0 := Su2_0.out.1
        have y0 := Su2_0.out.2.1
        have y1 := Su2_0.out.2.2.1
        have y2 := Su2_0.out.2.2.2.1
        have y3 := Su2_0.out.2.2.2.2.1
        have y4 := Su2_0.out.2.2.2.2.2.1
        have z0 := Su2_0.out.2.2.2.2.2.2.1
        have z1 := Su2_0.out.2.2.2.2.2.2.2.1
        have z2 := Su2_0.out.2.2.2.2.2.2.2.2.1
        have z3 := Su2_0.out.2.2.2.2.2.2.2.2.2.1
        have z4 := Su2_0.out.2.2.2.2.2.2.2.2.2.2
        have HB2 := Aside0.mk (below_step HB1.out Hu2_0.out)
        go_upto_region 22 with fail
        refine start_ (n := 13) (S := fun w' => w'.cell? ⟨w3.heap.size, 0, none⟩ = some (.bool false) ∧ w'.cell? ⟨g, 0, none⟩ = some (.string nmItem) ∧ w'.cell? ⟨g, 1, none⟩ = some (.iface q p) ∧ w'.cell? ⟨g, 2, none⟩ = some (.bool true) ∧ w'.cell? ⟨g, 3, none⟩ = some (.slice none 0 0) ∧ w'.cell? ⟨g, 4, none⟩ = some (.slice none 0 0) ∧ w'.cell? ⟨g', 0, none⟩ = some (.string nmItem) ∧ w'.cell? ⟨g', 1, none⟩ = some (.iface q' p') ∧ w'.cell? ⟨g', 2, none⟩ = some (.bool true) ∧ w'.cell? ⟨g', 3, none⟩ = some (.slice none 0 0) ∧ w'.cell? ⟨g', 4, none⟩ = some (.slice none 0 0)) (ds := []) (ba 13 0) (by kernel_rfl) rfl rfl ⟨k0, y0, y1, y2, y3, y4, z0, z1, z2, z3, z4⟩ (fun hHeld => ?_)
        generalize hw_ : u2_0.drew = u3_0 at hHeld ⊢
        have Hu3_0 := Aside0.mk (show Below u2_0.heap.size u2_0 u3_0 from by rw [← hw_]; exact b3_ (Below.refl _ _))
        clear hw_
        clear k0 y0 y1 y2 y3 y4 z0 z1 z2 z3 z4
        have Su3_0 := Aside0.mk hHeld
        refine pu 0 88 1 ?_
        refine pu 1 89 3 ?_
        refine pu 2 90 7 ?_
        refine pu 3 91 15 ?_
        refine ta 4 92 31 ?_
        refine pu 5 93 63 ?_
        refine pu 6 94 127 ?_
        refine pu 7 95 255 ?_
        refine pu 8 96 511 ?_
        refine pu 9 97 1023 ?_
        refine ta 10 98 2047 ?_
        refine pu 11 99 4095 ?_
        refine pu 12 6 8191 ?_
        refine done_ (by kernel_rfl) ?_
        clear hHeld
        have k0 := Su3_0.out.1
        have y0 := Su3_0.out.2.1
        have y1 := Su3_0.out.2.2.1
        have y2 := Su3_0.out.2.2.2.1
        have y3 := Su3_0.out.2.2.2.2.1
        have y4 := Su3_0.out.2.2.2.2.2.1
        have z0 := Su3_0.out.2.2.2.2.2.2.1
        have z1 := Su3_0.out.2.2.2.2.2.2.2.1
        have z2 := Su3_0.out.2.2.2.2.2.2.2.2.1
        have z3 := Su3_0.out.2.2.2.2.2.2.2.2.2.1
        have z4 := Su3_0.out.2.2.2.2.2.2.2.2.2.2
        have HB3 := Aside0.mk (below_step HB2.out Hu3_0.out)
        go_wp2
        go_ret
        exact ⟨tells_yes (HP.out.2 (HRR.out.1 (by first | rfl | trivial))), HB3.out⟩
       | true =>
        go_upto_region 20 with fail
        refine start_ (n := 17) (S := fun w' => w'.cell? ⟨w3.heap.size, 0, none⟩ = some (.bool true) ∧ w'.cell? ⟨g, 0, none⟩ = some (.string nmItem) ∧ w'.cell? ⟨g, 1, none⟩ = some (.iface q p) ∧ w'.cell? ⟨g, 2, none⟩ = some (.bool true) ∧ w'.cell? ⟨g, 3, none⟩ = some (.slice none 0 0) ∧ w'.cell? ⟨g, 4, none⟩ = some (.slice none 0 0) ∧ w'.cell? ⟨g', 0, none⟩ = some (.string nmItem) ∧ w'.cell? ⟨g', 1, none⟩ = some (.iface q' p') ∧ w'.cell? ⟨g', 2, none⟩ = some (.bool true) ∧ w'.cell? ⟨g', 3, none⟩ = some (.slice none 0 0) ∧ w'.cell? ⟨g', 4, none⟩ = some (.slice none 0 0)) (ds := []) (ba 17 0) (by kernel_rfl) rfl rfl ⟨k0, y0, y1, y2, y3, y4, z0, z1, z2, z3, z4⟩ (fun hHeld => ?_)
        generalize hw_ : u1_3.drew = u2_0 at hHeld ⊢
        have Hu2_0 := Aside0.mk (show Below u1_3.heap.size u1_3 u2_0 from by rw [← hw_]; exact b3_ (Below.refl _ _))
        clear hw_
        clear k0 y0 y1 y2 y3 y4 z0 z1 z2 z3 z4
        have Su2_0 := Aside0.mk hHeld
        refine pu 0 71 1 ?_
        refine ta 1 72 3 ?_
        refine pu 2 73 7 ?_
        refine pu 3 74 15 ?_
        refine pu 4 75 31 ?_
        refine pu 5 76 63 ?_
        refine pu 6 77 127 ?_
        refine ta 7 78 255 ?_
        refine pu 8 79 511 ?_
        refine pu 9 80 1023 ?_
        refine pu 10 81 2047 ?_
        refine pu 11 82 4095 ?_
        refine pu 12 83 8191 ?_
        refine ta 13 84 16383 ?_
        refine one_ (i := 14) (N := some 85) (ba 17 32767) rfl rfl (by kernel_rfl) (by decide) (fun K hK => ?_)
        refine goes_ Tryz.func52 (by kernel_rfl) rfl #[.agg #[.slice none 0 0, .slice none 0 0], .agg #[.slice none 0 0, .slice none 0 0]] (by rfl) rfl rfl (by (try simp only [List.map_toArray, List.map_cons, List.map_nil]); first | done | rfl) ?_
        refine (meta52 u2_0).mono ?_
        rintro e u2_1 ⟨rfl, hb⟩
        have Hu2_1 := Aside0.mk (below_step Hu2_0.out hb)
        have Su2_1 := Aside0.mk (show u2_1.cell? ⟨w3.heap.size, 0, none⟩ = some (.bool true) ∧ u2_1.cell? ⟨g, 0, none⟩ = some (.string nmItem) ∧ u2_1.cell? ⟨g, 1, none⟩ = some (.iface q p) ∧ u2_1.cell? ⟨g, 2, none⟩ = some (.bool true) ∧ u2_1.cell? ⟨g, 3, none⟩ = some (.slice none 0 0) ∧ u2_1.cell? ⟨g, 4, none⟩ = some (.slice none 0 0) ∧ u2_1.cell? ⟨g', 0, none⟩ = some (.string nmItem) ∧ u2_1.cell? ⟨g', 1, none⟩ = some (.iface q' p') ∧ u2_1.cell? ⟨g', 2, none⟩ = some (.bool true) ∧ u2_1.cell? ⟨g', 3, none⟩ = some (.slice none 0 0) ∧ u2_1.cell? ⟨g', 4, none⟩ = some (.slice none 0 0) from ⟨pw_cell_below hb Su2_0.out.1, pw_cell_below hb Su2_0.out.2.1, pw_cell_below hb Su2_0.out.2.2.1, pw_cell_below hb Su2_0.out.2.2.2.1, pw_cell_below hb Su2_0.out.2.2.2.2.1, pw_cell_below hb Su2_0.out.2.2.2.2.2.1, pw_cell_below hb Su2_0.out.2.2.2.2.2.2.1, pw_cell_below hb Su2_0.out.2.2.2.2.2.2.2.1, pw_cell_below hb Su2_0.out.2.2.2.2.2.2.2.2.1, pw_cell_below hb Su2_0.out.2.2.2.2.2.2.2.2.2.1, pw_cell_below hb Su2_0.out.2.2.2.2.2.2.2.2.2.2⟩)
        clear hb
        refine ⟨_, rfl, ?_⟩
        refine hK.out _ _ Su2_1.out (fun hHeld => ?_)
        clear hK K
        refine no 85 ?_
        refine pu 15 86 65535 ?_
        refine pu 16 87 131071 ?_
        refine done_ (by kernel_rfl) ?_
        clear hHeld
        have k0 := Su2_1.out.1
        have y0 := Su2_1.out.2.1
        have y1 := Su2_1.out.2.2.1
        have y2 := Su2_1.out.2.2.2.1
        have y3 := Su2_1.out.2.2.2.2.1
        have y4 := Su2_1.out.2.2.2.2.2.1
        have z0 := Su2_1.out.2.2.2.2.2.2.1
        have z1 := Su2_1.out.2.2.2.2.2.2.2.1
        have z2 := Su2_1.out.2.2.2.2.2.2.2.2.1
        have z3 := Su2_1.out.2.2.2.2.2.2.2.2.2.1
        have z4 := Su2_1.out.2.2.2.2.2.2.2.2.2.2
        have HB2 := Aside0.mk (below_step HB1.out Hu2_1.out)
        go_upto_region 22 with fail
        refine start_ (n := 13) (S := fun w' => w'.cell? ⟨w3.heap.size, 0, none⟩ = some (.bool true) ∧ w'.cell? ⟨g, 0, none⟩ = some (.string nmItem) ∧ w'.cell? ⟨g, 1, none⟩ = some (.iface q p) ∧ w'.cell? ⟨g, 2, none⟩ = some (.bool true) ∧ w'.cell? ⟨g, 3, none⟩ = some (.slice none 0 0) ∧ w'.cell? ⟨g, 4, none⟩ = some (.slice none 0 0) ∧ w'.cell? ⟨g', 0, none⟩ = some (.string nmItem) ∧ w'.cell? ⟨g', 1, none⟩ = some (.iface q' p') ∧ w'.cell? ⟨g', 2, none⟩ = some (.bool true) ∧ w'.cell? ⟨g', 3, none⟩ = some (.slice none 0 0) ∧ w'.cell? ⟨g', 4, none⟩ = some (.slice none 0 0)) (ds := []) (ba 13 0) (by kernel_rfl) rfl rfl ⟨k0, y0, y1, y2, y3, y4, z0, z1, z2, z3, z4⟩ (fun hHeld => ?_)
        generalize hw_ : u2_1.drew = u3_0 at hHeld ⊢
        have Hu3_0 := Aside0.mk (show Below u2_1.heap.size u2_1 u3_0 from by rw [← hw_]; exact b3_ (Below.refl _ _))
        clear hw_
        clear k0 y0 y1 y2 y3 y4 z0 z1 z2 z3 z4
        have Su3_0 := Aside0.mk hHeld
        refine pu 0 88 1 ?_
        refine pu 1 89 3 ?_
        refine pu 2 90 7 ?_
        refine pu 3 91 15 ?_
        refine ta 4 92 31 ?_
        refine pu 5 93 63 ?_
        refine pu 6 94 127 ?_
        refine pu 7 95 255 ?_
        refine pu 8 96 511 ?_
        refine pu 9 97 1023 ?_
        refine ta 10 98 2047 ?_
        refine pu 11 99 4095 ?_
        refine pu 12 6 8191 ?_
        refine done_ (by kernel_rfl) ?_
        clear hHeld
        have k0 := Su3_0.out.1
        have y0 := Su3_0.out.2.1
        have y1 := Su3_0.out.2.2.1
        have y2 := Su3_0.out.2.2.2.1
        have y3 := Su3_0.out.2.2.2.2.1
        have y4 := Su3_0.out.2.2.2.2.2.1
        have z0 := Su3_0.out.2.2.2.2.2.2.1
        have z1 := Su3_0.out.2.2.2.2.2.2.2.1
        have z2 := Su3_0.out.2.2.2.2.2.2.2.2.1
        have z3 := Su3_0.out.2.2.2.2.2.2.2.2.2.1
        have z4 := Su3_0.out.2.2.2.2.2.2.2.2.2.2
        have HB3 := Aside0.mk (below_step HB2.out Hu3_0.out)
        go_wp2
        go_ret
        exact ⟨tells_yes (HP.out.2 (HRR.out.1 (by first | rfl | trivial))), HB3.out⟩
    ·
     as_aux_lemma =>
      rw [h]
      have h' : tyN d' = 158 := HTY.out.symm.trans h
      obtain ⟨mm, T1, d1, rfl, hs⟩ := TDs.flist_of (show TDs (TD n) T d from HT.out.1) h rfl
      obtain ⟨mm', T2, d2, rfl, hs'⟩ := TDs.flist_of (show TDs (TD n) T' d' from HT.out.2.1) h' rfl
      have hI := HI.out.1
      have hI' := HI.out.2.1
      simp only [DTIn, DFIn, ptrAt] at hI hI'
      obtain ⟨g, cs, e, hk, hg, x, rfl, hx⟩ := hI
      obtain ⟨g', cs', e', hk', hg', x', rfl, hx'⟩ := hI'
      obtain rfl : a = ⟨g, 0, none⟩ := by injection e with _ e1; injection e1 with e2; injection e2
      obtain rfl : a' = ⟨g', 0, none⟩ := by injection e' with _ e1; injection e1 with e2; injection e2
      obtain ⟨q, a_, rfl⟩ := hx.form
      obtain ⟨p, hp⟩ : ∃ p, p = Value.pointer (some a_) := ⟨_, rfl⟩
      rw [← hp] at hx hg
      clear hp
      obtain ⟨q', a'_, rfl⟩ := hx'.form
      obtain ⟨p', hp'⟩ : ∃ p, p = Value.pointer (some a'_) := ⟨_, rfl⟩
      rw [← hp'] at hx' hg'
      clear hp'
      have HP := Aside0.mk (show P ↔ (mm = mm' ∧ d1 = d2) from by rw [HPP.out]; simp)
      have HX := Aside0.mk (And.intro hx (And.intro hx' (And.intro hs hs')))
      obtain ⟨y0, y1, y2, y3, y4, y5⟩ := cb6 hg
      obtain ⟨z0, z1, z2, z3, z4, z5⟩ := cb6 hg'
      clear e e' hx hx' hs hs' hk hk' hg hg' h h'
      have hn154 := (asn_154 158 (.pointer (some ⟨g, 0, none⟩)) (by decide)).o
      have hy : ∀ W, (Instr.typeAssert (.iface 158 (.pointer (some ⟨g, 0, none⟩))) 56 158 true).run Tryz.prog W = .ok (.tuple #[.pointer (some ⟨g, 0, none⟩), .bool true]) W := asy_158 _
      have hy' : ∀ W, (Instr.typeAssert (.iface 158 (.pointer (some ⟨g', 0, none⟩))) 56 158 false).run Tryz.prog W = .ok (.pointer (some ⟨g', 0, none⟩)) W := aso_158 _
      go_upto_region 25 with fail
      refine start_ (n := 8) (S := fun w' => w'.cell? ⟨w3.heap.size, 0, none⟩ = some (.bool mt) ∧ w'.cell? ⟨g, 0, none⟩ = some (.int .i32 mm) ∧ w'.cell? ⟨g, 1, none⟩ = some (.string nmItem) ∧ w'.cell? ⟨g, 2, none⟩ = some (.iface q p) ∧ w'.cell? ⟨g, 3, none⟩ = some (.bool true) ∧ w'.cell? ⟨g, 4, none⟩ = some (.slice none 0 0) ∧ w'.cell? ⟨g, 5, none⟩ = some (.slice none 0 0) ∧ w'.cell? ⟨g', 0, none⟩ = some (.int .i32 mm') ∧ w'.cell? ⟨g', 1, none⟩ = some (.string nmItem) ∧ w'.cell? ⟨g', 2, none⟩ = some (.iface q' p') ∧ w'.cell? ⟨g', 3, none⟩ = some (.bool true) ∧ w'.cell? ⟨g', 4, none⟩ = some (.slice none 0 0) ∧ w'.cell? ⟨g', 5, none⟩ = some (.slice none 0 0)) (ds := []) (ba 8 0) (by kernel_rfl) rfl rfl ⟨k0, y0, y1, y2, y3, y4, y5, z0, z1, z2, z3, z4, z5⟩ (fun hHeld => ?_)
      generalize hw_ : wr.drew = u1_0 at hHeld ⊢
      have Hu1_0 := Aside0.mk (show Below wr.heap.size wr u1_0 from by rw [← hw_]; exact b3_ (Below.refl _ _))
      clear hw_
      clear k0 y0 y1 y2 y3 y4 y5 z0 z1 z2 z3 z4 z5
      have Su1_0 := Aside0.mk hHeld
      refine pu 0 103 1 ?_
      refine pu 2 105 5 ?_
      refine pu 3 106 13 ?_
      refine pu 5 108 45 ?_
      refine one_ (i := 1) (N := some 104) (ba 8 47) rfl rfl (by kernel_rfl) (by decide) (fun K hK => ?_)
      refine goes_ Tryz.func66 (by kernel_rfl) rfl #[.pointer (some ⟨g, 0, none⟩)] (by rfl) rfl rfl (by (try simp only [List.map_toArray, List.map_cons, List.map_nil]); first | done | rfl) ?_
      refine (elem66 g _ u1_0 (Su1_0.out.2.2.2.1)).mono ?_
      rintro e u1_1 ⟨rfl, hb⟩
      have Hu1_1 := Aside0.mk (below_step Hu1_0.out hb)
      have Su1_1 := Aside0.mk (show u1_1.cell? ⟨w3.heap.size, 0, none⟩ = some (.bool mt) ∧ u1_1.cell? ⟨g, 0, none⟩ = some (.int .i32 mm) ∧ u1_1.cell? ⟨g, 1, none⟩ = some (.string nmItem) ∧ u1_1.cell? ⟨g, 2, none⟩ = some (.iface q p) ∧ u1_1.cell? ⟨g, 3, none⟩ = some (.bool true) ∧ u1_1.cell? ⟨g, 4, none⟩ = some (.slice none 0 0) ∧ u1_1.cell? ⟨g, 5, none⟩ = some (.slice none 0 0) ∧ u1_1.cell? ⟨g', 0, none⟩ = some (.int .i32 mm') ∧ u1_1.cell? ⟨g', 1, none⟩ = some (.string nmItem) ∧ u1_1.cell? ⟨g', 2, none⟩ = some (.iface q' p') ∧ u1_1.cell? ⟨g', 3, none⟩ = some (.bool true) ∧ u1_1.cell? ⟨g', 4, none⟩ = some (.slice none 0 0) ∧ u1_1.cell? ⟨g', 5, none⟩ = some (.slice none 0 0) from ⟨pw_cell_below hb Su1_0.out.1, pw_cell_below hb Su1_0.out.2.1, pw_cell_below hb Su1_0.out.2.2.1, pw_cell_below hb Su1_0.out.2.2.2.1, pw_cell_below hb Su1_0.out.2.2.2.2.1, pw_cell_below hb Su1_0.out.2.2.2.2.2.1, pw_cell_below hb Su1_0.out.2.2.2.2.2.2.1, pw_cell_below hb Su1_0.out.2.2.2.2.2.2.2.1, pw_cell_below hb Su1_0.out.2.2.2.2.2.2.2.2.1, pw_cell_below hb Su1_0.out.2.2.2.2.2.2.2.2.2.1, pw_cell_below hb Su1_0.out.2.2.2.2.2.2.2.2.2.2.1, pw_cell_below hb Su1_0.out.2.2.2.2.2.2.2.2.2.2.2.1, pw_cell_below hb Su1_0.out.2.2.2.2.2.2.2.2.2.2.2.2⟩)
      clear hb
      refine ⟨_, rfl, ?_⟩
      refine hK.out _ _ Su1_1.out (fun hHeld => ?_)
      clear hK K
      refine no 104 ?_
      refine one_ (i := 4) (N := some 107) (ba 8 63) rfl rfl (by kernel_rfl) (by decide) (fun K hK => ?_)
      refine goes_ Tryz.func66 (by kernel_rfl) rfl #[.pointer (some ⟨g', 0, none⟩)] (by rfl) rfl rfl (by (try simp only [List.map_toArray, List.map_cons, List.map_nil]); first | done | rfl) ?_
      refine (elem66 g' _ u1_1 (Su1_1.out.2.2.2.2.2.2.2.2.2.1)).mono ?_
      rintro e u1_2 ⟨rfl, hb⟩
      have Hu1_2 := Aside0.mk (below_step Hu1_1.out hb)
      have Su1_2 := Aside0.mk (show u1_2.cell? ⟨w3.heap.size, 0, none⟩ = some (.bool mt) ∧ u1_2.cell? ⟨g, 0, none⟩ = some (.int .i32 mm) ∧ u1_2.cell? ⟨g, 1, none⟩ = some (.string nmItem) ∧ u1_2.cell? ⟨g, 2, none⟩ = some (.iface q p) ∧ u1_2.cell? ⟨g, 3, none⟩ = some (.bool true) ∧ u1_2.cell? ⟨g, 4, none⟩ = some (.slice none 0 0) ∧ u1_2.cell? ⟨g, 5, none⟩ = some (.slice none 0 0) ∧ u1_2.cell? ⟨g', 0, none⟩ = some (.int .i32 mm') ∧ u1_2.cell? ⟨g', 1, none⟩ = some (.string nmItem) ∧ u1_2.cell? ⟨g', 2, none⟩ = some (.iface q' p') ∧ u1_2.cell? ⟨g', 3, none⟩ = some (.bool true) ∧ u1_2.cell? ⟨g', 4, none⟩ = some (.slice none 0 0) ∧ u1_2.cell? ⟨g', 5, none⟩ = some (.slice none 0 0) from ⟨pw_cell_below hb Su1_1.out.1, pw_cell_below hb Su1_1.out.2.1, pw_cell_below hb Su1_1.out.2.2.1, pw_cell_below hb Su1_1.out.2.2.2.1, pw_cell_below hb Su1_1.out.2.2.2.2.1, pw_cell_below hb Su1_1.out.2.2.2.2.2.1, pw_cell_below hb Su1_1.out.2.2.2.2.2.2.1, pw_cell_below hb Su1_1.out.2.2.2.2.2.2.2.1, pw_cell_below hb Su1_1.out.2.2.2.2.2.2.2.2.1, pw_cell_below hb Su1_1.out.2.2.2.2.2.2.2.2.2.1, pw_cell_below hb Su1_1.out.2.2.2.2.2.2.2.2.2.2.1, pw_cell_below hb Su1_1.out.2.2.2.2.2.2.2.2.2.2.2.1, pw_cell_below hb Su1_1.out.2.2.2.2.2.2.2.2.2.2.2.2⟩)
      clear hb
      refine ⟨_, rfl, ?_⟩
      refine hK.out _ _ Su1_2.out (fun hHeld => ?_)
      clear hK K
      refine no 107 ?_
      refine one_ (i := 6) (N := some 109) (ba 8 127) rfl rfl (by kernel_rfl) (by decide) (fun K hK => ?_)
      refine goes_ Tryz.func35 (by kernel_rfl) rfl #[.iface q p, .iface q' p', .slice A i i] (by rfl) rfl rfl (by (try simp only [List.map_toArray, List.map_cons, List.map_nil]); first | done | rfl) ?_
      refine (HT.out.2.2.2.2.1 _ _ d1 d2 _ _ u1_2 ok ok' A i HX.out.2.2.1 HX.out.2.2.2 (HX.out.1.below (Hu1_2.out)) (HX.out.2.1.below (Hu1_2.out)) HT.out.2.2.1 (HI.out.2.2.1.below (Hu1_2.out))).mono ?_
      rintro e u1_3 ⟨⟨r, rfl, hr⟩, hb⟩
      have Hu1_3 := Aside0.mk (below_step Hu1_2.out hb)
      have Su1_3 := Aside0.mk (show u1_3.cell? ⟨w3.heap.size, 0, none⟩ = some (.bool mt) ∧ u1_3.cell? ⟨g, 0, none⟩ = some (.int .i32 mm) ∧ u1_3.cell? ⟨g, 1, none⟩ = some (.string nmItem) ∧ u1_3.cell? ⟨g, 2, none⟩ = some (.iface q p) ∧ u1_3.cell? ⟨g, 3, none⟩ = some (.bool true) ∧ u1_3.cell? ⟨g, 4, none⟩ = some (.slice none 0 0) ∧ u1_3.cell? ⟨g, 5, none⟩ = some (.slice none 0 0) ∧ u1_3.cell? ⟨g', 0, none⟩ = some (.int .i32 mm') ∧ u1_3.cell? ⟨g', 1, none⟩ = some (.string nmItem) ∧ u1_3.cell? ⟨g', 2, none⟩ = some (.iface q' p') ∧ u1_3.cell? ⟨g', 3, none⟩ = some (.bool true) ∧ u1_3.cell? ⟨g', 4, none⟩ = some (.slice none 0 0) ∧ u1_3.cell? ⟨g', 5, none⟩ = some (.slice none 0 0) from ⟨pw_cell_below hb Su1_2.out.1, pw_cell_below hb Su1_2.out.2.1, pw_cell_below hb Su1_2.out.2.2.1, pw_cell_below hb Su1_2.out.2.2.2.1, pw_cell_below hb Su1_2.out.2.2.2.2.1, pw_cell_below hb Su1_2.out.2.2.2.2.2.1, pw_cell_below hb Su1_2.out.2.2.2.2.2.2.1, pw_cell_below hb Su1_2.out.2.2.2.2.2.2.2.1, pw_cell_below hb Su1_2.out.2.2.2.2.2.2.2.2.1, pw_cell_below hb Su1_2.out.2.2.2.2.2.2.2.2.2.1, pw_cell_below hb Su1_2.out.2.2.2.2.2.2.2.2.2.2.1, pw_cell_below hb Su1_2.out.2.2.2.2.2.2.2.2.2.2.2.1, pw_cell_below hb Su1_2.out.2.2.2.2.2.2.2.2.2.2.2.2⟩)
      have HRR := Aside0.mk hr
      clear hr
      clear hb
      refine ⟨_, rfl, ?_⟩
      refine hK.out _ _ Su1_3.out (fun hHeld => ?_)
      clear hK K
      refine no 109 ?_
      refine pu 7 110 255 ?_
      refine done_ (by kernel_rfl) ?_
      clear hHeld
      have k0 := Su1_3.out.1
      have y0 := Su1_3.out.2.1
      have y1 := Su1_3.out.2.2.1
      have y2 := Su1_3.out.2.2.2.1
      have y3 := Su1_3.out.2.2.2.2.1
      have y4 := Su1_3.out.2.2.2.2.2.1
      have y5 := Su1_3.out.2.2.2.2.2.2.1
      have z0 := Su1_3.out.2.2.2.2.2.2.2.1
      have z1 := Su1_3.out.2.2.2.2.2.2.2.2.1
      have z2 := Su1_3.out.2.2.2.2.2.2.2.2.2.1
      have z3 := Su1_3.out.2.2.2.2.2.2.2.2.2.2.1
      have z4 := Su1_3.out.2.2.2.2.2.2.2.2.2.2.2.1
      have z5 := Su1_3.out.2.2.2.2.2.2.2.2.2.2.2.2
      have HB1 := Aside0.mk (below_step HI.out.2.2.2.1 Hu1_3.out)
      cases r with
      | false =>
       go_wp2
       go_ret
       exact ⟨tells_no (fun h => by have := HRR.out.2 (HP.out.1 h).2; simp at this), HB1.out⟩
      | true =>
       clear Su1_3 Hu1_3
       cases mt with
       | false =>
        go_upto_region 27 with fail
        refine start_ (n := 17) (S := fun w' => w'.cell? ⟨w3.heap.size, 0, none⟩ = some (.bool false) ∧ w'.cell? ⟨g, 0, none⟩ = some (.int .i32 mm) ∧ w'.cell? ⟨g, 1, none⟩ = some (.string nmItem) ∧ w'.cell? ⟨g, 2, none⟩ = some (.iface q p) ∧ w'.cell? ⟨g, 3, none⟩ = some (.bool true) ∧ w'.cell? ⟨g, 4, none⟩ = some (.slice none 0 0) ∧ w'.cell? ⟨g, 5, none⟩ = some (.slice none 0 0) ∧ w'.cell? ⟨g', 0, none⟩ = some (.int .i32 mm') ∧ w'.cell? ⟨g', 1, none⟩ = some (.string nmItem) ∧ w'.cell? ⟨g', 2, none⟩ = some (.iface q' p') ∧ w'.cell? ⟨g', 3, none⟩ = some (.bool true) ∧ w'.cell? ⟨g', 4, none⟩ = some (.slice none 0 0) ∧ w'.cell? ⟨g', 5, none⟩ = some (.slice none 0 0)) (ds := []) (ba 17 0) (by kernel_rfl) rfl rfl ⟨k0, y0, y1, y2, y3, y4, y5, z0, z1, z2, z3, z4, z5⟩ (fun hHeld => ?_)
        generalize hw_ : u1_3.drew = u2_0 at hHeld ⊢
        have Hu2_0 := Aside0.mk (show Below u1_3.heap.size u1_3 u2_0 from by rw [← hw_]; exact b3_ (Below.refl _ _))
        clear hw_
        clear k0 y0 y1 y2 y3 y4 y5 z0 z1 z2 z3 z4 z5
        have Su2_0 := Aside0.mk hHeld
        refine pu 0 111 1 ?_
        refine ta 1 112 3 ?_
        refine pu 2 113 7 ?_
        refine ou 3 114 15 ?_
        refine ou 4 115 31 ?_
        refine ou 5 116 63 ?_
        refine ou 6 117 127 ?_
        refine ou 7 118 255 ?_
        refine ou 8 119 511 ?_
        refine ou 9 120 1023 ?_
        refine ou 10 121 2047 ?_
        refine ou 11 122 4095 ?_
        refine ou 12 123 8191 ?_
        refine ou 13 124 16383 ?_
        refine ou 14 125 32767 ?_
        refine ou 15 126 65535 ?_
        refine pu 16 127 131071 ?_
        refine done_ (by kernel_rfl) ?_
        clear hHeld
        have k0 := Su2_0.out.1
        have y0 := Su2_0.out.2.1
        have y1 := Su2_0.out.2.2.1
        have y2 := Su2_0.out.2.2.2.1
        have y3 := Su2_0.out.2.2.2.2.1
        have y4 := Su2_0.out.2.2.2.2.2.1
        have y5 := Su2_0.out.2.2.2.2.2.2.1
        have z0 := Su2_0.out.2.2.2.2.2.2.2.1
        have z1 := Su2_0.out.2.2.2.2.2.2.2.2.1
        have z2 := Su2_0.out.2.2.2.2.2.2.2.2.2.1
        have z3 := Su2_0.out.2.2.2.2.2.2.2.2.2.2.1
        have z4 := Su2_0.out.2.2.2.2.2.2.2.2.2.2.2.1
        have z5 := Su2_0.out.2.2.2.2.2.2.2.2.2.2.2.2
        have HB2 := Aside0.mk (below_step HB1.out Hu2_0.out)
        by_cases hm : mm = mm'
        rotate_left
        ·have qb : (mm == mm') = false := by simpa using hm
         have HM2 := Aside0.mk hm
         clear hm
         go_upto_region 29 with fail
         refine start_ (n := 25) (S := fun w' => w'.cell? ⟨w3.heap.size, 0, none⟩ = some (.bool false) ∧ w'.cell? ⟨g, 0, none⟩ = some (.int .i32 mm) ∧ w'.cell? ⟨g, 1, none⟩ = some (.string nmItem) ∧ w'.cell? ⟨g, 2, none⟩ = some (.iface q p) ∧ w'.cell? ⟨g, 3, none⟩ = some (.bool true) ∧ w'.cell? ⟨g, 4, none⟩ = some (.slice none 0 0) ∧ w'.cell? ⟨g, 5, none⟩ = some (.slice none 0 0) ∧ w'.cell? ⟨g', 0, none⟩ = some (.int .i32 mm') ∧ w'.cell? ⟨g', 1, none⟩ = some (.string nmItem) ∧ w'.cell? ⟨g', 2, none⟩ = some (.iface q' p') ∧ w'.cell? ⟨g', 3, none⟩ = some (.bool true) ∧ w'.cell? ⟨g', 4, none⟩ = some (.slice none 0 0) ∧ w'.cell? ⟨g', 5, none⟩ = some (.slice none 0 0)) (ds := []) (ba 25 0) (by kernel_rfl) rfl rfl ⟨k0, y0, y1, y2, y3, y4, y5, z0, z1, z2, z3, z4, z5⟩ (fun hHeld => ?_)
         generalize hw_ : u2_0.drew = u3_0 at hHeld ⊢
         have Hu3_0 := Aside0.mk (show Below u2_0.heap.size u2_0 u3_0 from by rw [← hw_]; exact b3_ (Below.refl _ _))
         clear hw_
         clear k0 y0 y1 y2 y3 y4 y5 z0 z1 z2 z3 z4 z5
         have Su3_0 := Aside0.mk hHeld
         refine pu 0 128 1 ?_
         refine pu 1 129 3 ?_
         refine pu 2 130 7 ?_
         refine ta 3 131 15 ?_
         refine pu 4 132 31 ?_
         refine pu 5 133 63 ?_
         refine pu 6 134 127 ?_
         refine pu 7 135 255 ?_
         refine ta 8 136 511 ?_
         refine pu 9 137 1023 ?_
         refine pu 10 138 2047 ?_
         refine ou 11 139 4095 ?_
         refine ou 12 140 8191 ?_
         refine ou 13 141 16383 ?_
         refine ou 14 142 32767 ?_
         refine ou 15 143 65535 ?_
         refine ou 16 144 131071 ?_
         refine ou 17 145 262143 ?_
         refine ou 18 146 524287 ?_
         refine ou 19 147 1048575 ?_
         refine ou 20 148 2097151 ?_
         refine ou 21 149 4194303 ?_
         refine ou 22 150 8388607 ?_
         refine pu 23 151 16777215 ?_
         refine pu 24 6 33554431 ?_
         refine done_ (by kernel_rfl) ?_
         clear hHeld
         have k0 := Su3_0.out.1
         have y0 := Su3_0.out.2.1
         have y1 := Su3_0.out.2.2.1
         have y2 := Su3_0.out.2.2.2.1
         have y3 := Su3_0.out.2.2.2.2.1
         have y4 := Su3_0.out.2.2.2.2.2.1
         have y5 := Su3_0.out.2.2.2.2.2.2.1
         have z0 := Su3_0.out.2.2.2.2.2.2.2.1
         have z1 := Su3_0.out.2.2.2.2.2.2.2.2.1
         have z2 := Su3_0.out.2.2.2.2.2.2.2.2.2.1
         have z3 := Su3_0.out.2.2.2.2.2.2.2.2.2.2.1
         have z4 := Su3_0.out.2.2.2.2.2.2.2.2.2.2.2.1
         have z5 := Su3_0.out.2.2.2.2.2.2.2.2.2.2.2.2
         have HB3 := Aside0.mk (below_step HB2.out Hu3_0.out)
         go_wp2
         go_ret
         exact ⟨tells_no (fun h => HM2.out (HP.out.1 h).1), HB3.out⟩
        have HM2 := Aside0.mk hm
        rw [← hm] at z0
        clear hm
        go_upto_region 29 with fail
        refine start_ (n := 25) (S := fun w' => w'.cell? ⟨w3.heap.size, 0, none⟩ = some (.bool false) ∧ w'.cell? ⟨g, 0, none⟩ = some (.int .i32 mm) ∧ w'.cell? ⟨g, 1, none⟩ = some (.string nmItem) ∧ w'.cell? ⟨g, 2, none⟩ = some (.iface q p) ∧ w'.cell? ⟨g, 3, none⟩ = some (.bool true) ∧ w'.cell? ⟨g, 4, none⟩ = some (.slice none 0 0) ∧ w'.cell? ⟨g, 5, none⟩ = some (.slice none 0 0) ∧ w'.cell? ⟨g', 0, none⟩ = some (.int .i32 mm) ∧ w'.cell? ⟨g', 1, none⟩ = some (.string nmItem) ∧ w'.cell? ⟨g', 2, none⟩ = some (.iface q' p') ∧ w'.cell? ⟨g', 3, none⟩ = some (.bool true) ∧ w'.cell? ⟨g', 4, none⟩ = some (.slice none 0 0) ∧ w'.cell? ⟨g', 5, none⟩ = some (.slice none 0 0)) (ds := []) (ba 25 0) (by kernel_rfl) rfl rfl ⟨k0, y0, y1, y2, y3, y4, y5, z0, z1, z2, z3, z4, z5⟩ (fun hHeld => ?_)
        generalize hw_ : u2_0.drew = u3_0 at hHeld ⊢
        have Hu3_0 := Aside0.mk (show Below u2_0.heap.size u2_0 u3_0 from by rw [← hw_]; exact b3_ (Below.refl _ _))
        clear hw_
        clear k0 y0 y1 y2 y3 y4 y5 z0 z1 z2 z3 z4 z5
        have Su3_0 := Aside0.mk hHeld
        refine pu 0 128 1 ?_
        refine pu 1 129 3 ?_
        refine pu 2 130 7 ?_
        refine ta 3 131 15 ?_
        refine pu 4 132 31 ?_
        refine pu 5 133 63 ?_
        refine pu 6 134 127 ?_
        refine pu 7 135 255 ?_
        refine ta 8 136 511 ?_
        refine pu 9 137 1023 ?_
        refine pu 10 138 2047 ?_
        refine pu 11 139 4095 ?_
        refine pu 12 140 8191 ?_
        refine pu 13 141 16383 ?_
        refine pu 14 142 32767 ?_
        refine ta 15 143 65535 ?_
        refine pu 16 144 131071 ?_
        refine pu 17 145 262143 ?_
        refine pu 18 146 524287 ?_
        refine pu 19 147 1048575 ?_
        refine pu 20 148 2097151 ?_
        refine ta 21 149 4194303 ?_
        refine pu 22 150 8388607 ?_
        refine pu 23 151 16777215 ?_
        refine pu 24 6 33554431 ?_
        refine done_ (by kernel_rfl) ?_
        clear hHeld
        have k0 := Su3_0.out.1
        have y0 := Su3_0.out.2.1
        have y1 := Su3_0.out.2.2.1
        have y2 := Su3_0.out.2.2.2.1
        have y3 := Su3_0.out.2.2.2.2.1
        have y4 := Su3_0.out.2.2.2.2.2.1
        have y5 := Su3_0.out.2.2.2.2.2.2.1
        have z0 := Su3_0.out.2.2.2.2.2.2.2.1
        have z1 := Su3_0.out.2.2.2.2.2.2.2.2.1
        have z2 := Su3_0.out.2.2.2.2.2.2.2.2.2.1
        have z3 := Su3_0.out.2.2.2.2.2.2.2.2.2.2.1
        have z4 := Su3_0.out.2.2.2.2.2.2.2.2.2.2.2.1
        have z5 := Su3_0.out.2.2.2.2.2.2.2.2.2.2.2.2
        have HB3 := Aside0.mk (below_step HB2.out Hu3_0.out)
        go_wp2
        go_ret
        exact ⟨tells_yes (HP.out.2 ⟨HM2.out, HRR.out.1 (by first | rfl | trivial)⟩), HB3.out⟩
       | true =>
        go_upto_region 27 with fail
        refine start_ (n := 17) (S := fun w' => w'.cell? ⟨w3.heap.size, 0, none⟩ = some (.bool true) ∧ w'.cell? ⟨g, 0, none⟩ = some (.int .i32 mm) ∧ w'.cell? ⟨g, 1, none⟩ = some (.string nmItem) ∧ w'.cell? ⟨g, 2, none⟩ = some (.iface q p) ∧ w'.cell? ⟨g, 3, none⟩ = some (.bool true) ∧ w'.cell? ⟨g, 4, none⟩ = some (.slice none 0 0) ∧ w'.cell? ⟨g, 5, none⟩ = some (.slice none 0 0) ∧ w'.cell? ⟨g', 0, none⟩ = some (.int .i32 mm') ∧ w'.cell? ⟨g', 1, none⟩ = some (.string nmItem) ∧ w'.cell? ⟨g', 2, none⟩ = some (.iface q' p') ∧ w'.cell? ⟨g', 3, none⟩ = some (.bool true) ∧ w'.cell? ⟨g', 4, none⟩ = some (.slice none 0 0) ∧ w'.cell? ⟨g', 5, none⟩ = some (.slice none 0 0)) (ds := []) (ba 17 0) (by kernel_rfl) rfl rfl ⟨k0, y0, y1, y2, y3, y4, y5, z0, z1, z2, z3, z4, z5⟩ (fun hHeld => ?_)
        generalize hw_ : u1_3.drew = u2_0 at hHeld ⊢
        have Hu2_0 := Aside0.mk (show Below u1_3.heap.size u1_3 u2_0 from by rw [← hw_]; exact b3_ (Below.refl _ _))
        clear hw_
        clear k0 y0 y1 y2 y3 y4 y5 z0 z1 z2 z3 z4 z5
        have Su2_0 := Aside0.mk hHeld
        refine pu 0 111 1 ?_
        refine ta 1 112 3 ?_
        refine pu 2 113 7 ?_
        refine pu 3 114 15 ?_
        refine pu 4 115 31 ?_
        refine pu 5 116 63 ?_
        refine pu 6 117 127 ?_
        refine ta 7 118 255 ?_
        refine pu 8 119 511 ?_
        refine pu 9 120 1023 ?_
        refine pu 10 121 2047 ?_
        refine pu 11 122 4095 ?_
        refine pu 12 123 8191 ?_
        refine ta 13 124 16383 ?_
        refine one_ (i := 14) (N := some 125) (ba 17 32767) rfl rfl (by kernel_rfl) (by decide) (fun K hK => ?_)
        refine goes_ Tryz.func52 (by kernel_rfl) rfl #[.agg #[.slice none 0 0, .slice none 0 0], .agg #[.slice none 0 0, .slice none 0 0]] (by rfl) rfl rfl (by (try simp only [List.map_toArray, List.map_cons, List.map_nil]); first | done | rfl) ?_
        refine (meta52 u2_0).mono ?_
        rintro e u2_1 ⟨rfl, hb⟩
        have Hu2_1 := Aside0.mk (below_step Hu2_0.out hb)
        have Su2_1 := Aside0.mk (show u2_1.cell? ⟨w3.heap.size, 0, none⟩ = some (.bool true) ∧ u2_1.cell? ⟨g, 0, none⟩ = some (.int .i32 mm) ∧ u2_1.cell? ⟨g, 1, none⟩ = some (.string nmItem) ∧ u2_1.cell? ⟨g, 2, none⟩ = some (.iface q p) ∧ u2_1.cell? ⟨g, 3, none⟩ = some (.bool true) ∧ u2_1.cell? ⟨g, 4, none⟩ = some (.slice none 0 0) ∧ u2_1.cell? ⟨g, 5, none⟩ = some (.slice none 0 0) ∧ u2_1.cell? ⟨g', 0, none⟩ = some (.int .i32 mm') ∧ u2_1.cell? ⟨g', 1, none⟩ = some (.string nmItem) ∧ u2_1.cell? ⟨g', 2, none⟩ = some (.iface q' p') ∧ u2_1.cell? ⟨g', 3, none⟩ = some (.bool true) ∧ u2_1.cell? ⟨g', 4, none⟩ = some (.slice none 0 0) ∧ u2_1.cell? ⟨g', 5, none⟩ = some (.slice none 0 0) from ⟨pw_cell_below hb Su2_0.out.1, pw_cell_below hb Su2_0.out.2.1, pw_cell_below hb Su2_0.out.2.2.1, pw_cell_below hb Su2_0.out.2.2.2.1, pw_cell_below hb Su2_0.out.2.2.2.2.1, pw_cell_below hb Su2_0.out.2.2.2.2.2.1, pw_cell_below hb Su2_0.out.2.2.2.2.2.2.1, pw_cell_below hb Su2_0.out.2.2.2.2.2.2.2.1, pw_cell_below hb Su2_0.out.2.2.2.2.2.2.2.2.1, pw_cell_below hb Su2_0.out.2.2.2.2.2.2.2.2.2.1, pw_cell_below hb Su2_0.out.2.2.2.2.2.2.2.2.2.2.1, pw_cell_below hb Su2_0.out.2.2.2.2.2.2.2.2.2.2.2.1, pw_cell_below hb Su2_0.out.2.2.2.2.2.2.2.2.2.2.2.2⟩)
        clear hb
        refine ⟨_, rfl, ?_⟩
        refine hK.out _ _ Su2_1.out (fun hHeld => ?_)
        clear hK K
        refine no 125 ?_
        refine pu 15 126 65535 ?_
        refine pu 16 127 131071 ?_
        refine done_ (by kernel_rfl) ?_
        clear hHeld
        have k0 := Su2_1.out.1
        have y0 := Su2_1.out.2.1
        have y1 := Su2_1.out.2.2.1
        have y2 := Su2_1.out.2.2.2.1
        have y3 := Su2_1.out.2.2.2.2.1
        have y4 := Su2_1.out.2.2.2.2.2.1
        have y5 := Su2_1.out.2.2.2.2.2.2.1
        have z0 := Su2_1.out.2.2.2.2.2.2.2.1
        have z1 := Su2_1.out.2.2.2.2.2.2.2.2.1
        have z2 := Su2_1.out.2.2.2.2.2.2.2.2.2.1
        have z3 := Su2_1.out.2.2.2.2.2.2.2.2.2.2.1
        have z4 := Su2_1.out.2.2.2.2.2.2.2.2.2.2.2.1
        have z5 := Su2_1.out.2.2.2.2.2.2.2.2.2.2.2.2
        have HB2 := Aside0.mk (below_step HB1.out Hu2_1.out)
        by_cases hm : mm = mm'
        rotate_left
        ·have qb : (mm == mm') = false := by simpa using hm
         have HM2 := Aside0.mk hm
         clear hm
         go_upto_region 29 with fail
         refine start_ (n := 25) (S := fun w' => w'.cell? ⟨w3.heap.size, 0, none⟩ = some (.bool true) ∧ w'.cell? ⟨g, 0, none⟩ = some (.int .i32 mm) ∧ w'.cell? ⟨g, 1, none⟩ = some (.string nmItem) ∧ w'.cell? ⟨g, 2, none⟩ = some (.iface q p) ∧ w'.cell? ⟨g, 3, none⟩ = some (.bool true) ∧ w'.cell? ⟨g, 4, none⟩ = some (.slice none 0 0) ∧ w'.cell? ⟨g, 5, none⟩ = some (.slice none 0 0) ∧ w'.cell? ⟨g', 0, none⟩ = some (.int .i32 mm') ∧ w'.cell? ⟨g', 1, none⟩ = some (.string nmItem) ∧ w'.cell? ⟨g', 2, none⟩ = some (.iface q' p') ∧ w'.cell? ⟨g', 3, none⟩ = some (.bool true) ∧ w'.cell? ⟨g', 4, none⟩ = some (.slice none 0 0) ∧ w'.cell? ⟨g', 5, none⟩ = some (.slice none 0 0)) (ds := []) (ba 25 0) (by kernel_rfl) rfl rfl ⟨k0, y0, y1, y2, y3, y4, y5, z0, z1, z2, z3, z4, z5⟩ (fun hHeld => ?_)
         generalize hw_ : u2_1.drew = u3_0 at hHeld ⊢
         have Hu3_0 := Aside0.mk (show Below u2_1.heap.size u2_1 u3_0 from by rw [← hw_]; exact b3_ (Below.refl _ _))
         clear hw_
         clear k0 y0 y1 y2 y3 y4 y5 z0 z1 z2 z3 z4 z5
         have Su3_0 := Aside0.mk hHeld
         refine pu 0 128 1 ?_
         refine pu 1 129 3 ?_
         refine pu 2 130 7 ?_
         refine ta 3 131 15 ?_
         refine pu 4 132 31 ?_
         refine pu 5 133 63 ?_
         refine pu 6 134 127 ?_
         refine pu 7 135 255 ?_
         refine ta 8 136 511 ?_
         refine pu 9 137 1023 ?_
         refine pu 10 138 2047 ?_
         refine ou 11 139 4095 ?_
         refine ou 12 140 8191 ?_
         refine ou 13 141 16383 ?_
         refine ou 14 142 32767 ?_
         refine ou 15 143 65535 ?_
         refine ou 16 144 131071 ?_
         refine ou 17 145 262143 ?_
         refine ou 18 146 524287 ?_
         refine ou 19 147 1048575 ?_
         refine ou 20 148 2097151 ?_
         refine ou 21 149 4194303 ?_
         refine ou 22 150 8388607 ?_
         refine pu 23 151 16777215 ?_
         refine pu 24 6 33554431 ?_
         refine done_ (by kernel_rfl) ?_
         clear hHeld
         have k0 := Su3_0.out.1
         have y0 := Su3_0.out.2.1
         have y1 := Su3_0.out.2.2.1
         have y2 := Su3_0.out.2.2.2.1
         have y3 := Su3_0.out.2.2.2.2.1
         have y4 := Su3_0.out.2.2.2.2.2.1
         have y5 := Su3_0.out.2.2.2.2.2.2.1
         have z0 := Su3_0.out.2.2.2.2.2.2.2.1
         have z1 := Su3_0.out.2.2.2.2.2.2.2.2.1
         have z2 := Su3_0.out.2.2.2.2.2.2.2.2.2.1
         have z3 := Su3_0.out.2.2.2.2.2.2.2.2.2.2.1
         have z4 := Su3_0.out.2.2.2.2.2.2.2.2.2.2.2.1
         have z5 := Su3_0.out.2.2.2.2.2.2.2.2.2.2.2.2
         have HB3 := Aside0.mk (below_step HB2.out Hu3_0.out)
         go_wp2
         go_ret
         exact ⟨tells_no (fun h => HM2.out (HP.out.1 h).1), HB3.out⟩
        have HM2 := Aside0.mk hm
        rw [← hm] at z0
        clear hm
        go_upto_region 29 with fail
        refine start_ (n := 25) (S := fun w' => w'.cell? ⟨w3.heap.size, 0, none⟩ = some (.bool true) ∧ w'.cell? ⟨g, 0, none⟩ = some (.int .i32 mm) ∧ w'.cell? ⟨g, 1, none⟩ = some (.string nmItem) ∧ w'.cell? ⟨g, 2, none⟩ = some (.iface q p) ∧ w'.cell? ⟨g, 3, none⟩ = some (.bool true) ∧ w'.cell? ⟨g, 4, none⟩ = some (.slice none 0 0) ∧ w'.cell? ⟨g, 5, none⟩ = some (.slice none 0 0) ∧ w'.cell? ⟨g', 0, none⟩ = some (.int .i32 mm) ∧ w'.cell? ⟨g', 1, none⟩ = some (.string nmItem) ∧ w'.cell? ⟨g', 2, none⟩ = some (.iface q' p') ∧ w'.cell? ⟨g', 3, none⟩ = some (.bool true) ∧ w'.cell? ⟨g', 4, none⟩ = some (.slice none 0 0) ∧ w'.cell? ⟨g', 5, none⟩ = some (.slice none 0 0)) (ds := []) (ba 25 0) (by kernel_rfl) rfl rfl ⟨k0, y0, y1, y2, y3, y4, y5, z0, z1, z2, z3, z4, z5⟩ (fun hHeld => ?_)
        generalize hw_ : u2_1.drew = u3_0 at hHeld ⊢
        have Hu3_0 := Aside0.mk (show Below u2_1.heap.size u2_1 u3_0 from by rw [← hw_]; exact b3_ (Below.refl _ _))
        clear hw_
        clear k0 y0 y1 y2 y3 y4 y5 z0 z1 z2 z3 z4 z5
        have Su3_0 := Aside0.mk hHeld
        refine pu 0 128 1 ?_
        refine pu 1 129 3 ?_
        refine pu 2 130 7 ?_
        refine ta 3 131 15 ?_
        refine pu 4 132 31 ?_
        refine pu 5 133 63 ?_
        refine pu 6 134 127 ?_
        refine pu 7 135 255 ?_
        refine ta 8 136 511 ?_
        refine pu 9 137 1023 ?_
        refine pu 10 138 2047 ?_
        refine pu 11 139 4095 ?_
        refine pu 12 140 8191 ?_
        refine pu 13 141 16383 ?_
        refine pu 14 142 32767 ?_
        refine ta 15 143 65535 ?_
        refine pu 16 144 131071 ?_
        refine pu 17 145 262143 ?_
        refine pu 18 146 524287 ?_
        refine pu 19 147 1048575 ?_
        refine pu 20 148 2097151 ?_
        refine ta 21 149 4194303 ?_
        refine pu 22 150 8388607 ?_
        refine pu 23 151 16777215 ?_
        refine pu 24 6 33554431 ?_
        refine done_ (by kernel_rfl) ?_
        clear hHeld
        have k0 := Su3_0.out.1
        have y0 := Su3_0.out.2.1
        have y1 := Su3_0.out.2.2.1
        have y2 := Su3_0.out.2.2.2.1
        have y3 := Su3_0.out.2.2.2.2.1
        have y4 := Su3_0.out.2.2.2.2.2.1
        have y5 := Su3_0.out.2.2.2.2.2.2.1
        have z0 := Su3_0.out.2.2.2.2.2.2.2.1
        have z1 := Su3_0.out.2.2.2.2.2.2.2.2.1
        have z2 := Su3_0.out.2.2.2.2.2.2.2.2.2.1
        have z3 := Su3_0.out.2.2.2.2.2.2.2.2.2.2.1
        have z4 := Su3_0.out.2.2.2.2.2.2.2.2.2.2.2.1
        have z5 := Su3_0.out.2.2.2.2.2.2.2.2.2.2.2.2
        have HB3 := Aside0.mk (below_step HB2.out Hu3_0.out)
        go_wp2
        go_ret
        exact ⟨tells_yes (HP.out.2 ⟨HM2.out, HRR.out.1 (by first | rfl | trivial)⟩), HB3.out⟩
    ·
     as_aux_lemma =>
      rw [h]
      have h' : tyN d' = 161 := HTY.out.symm.trans h
      obtain ⟨K, V, dk, dv, fl, rfl, hsk, hsv, _⟩ := TDs.map_of (show TDs (TD n) T d from HT.out.1) h rfl
      obtain ⟨K', V', dk', dv', fl', rfl, hsk', hsv', _⟩ := TDs.map_of (show TDs (TD n) T' d' from HT.out.2.1) h' rfl
      obtain ⟨g, q0, p0, q1, p1, e, hm, hx, hy⟩ := MpAt.of HI.out.1
      obtain ⟨g', q0', p0', q1', p1', e', hm', hx', hy'⟩ := MpAt.of HI.out.2.1
      obtain rfl : a = ⟨g, 0, none⟩ := by injection e with _ e1; injection e1 with e2; injection e2
      obtain rfl : a' = ⟨g', 0, none⟩ := by injection e' with _ e1; injection e1 with e2; injection e2
      have HP := Aside0.mk (show P ↔ (dk = dk' ∧ dv = dv' ∧ fl = fl') from by rw [HPP.out]; simp [and_assoc])
      have HX := Aside0.mk (And.intro hx (And.intro hx' (And.intro hsk hsk')))
      have HY := Aside0.mk (And.intro hy (And.intro hy' (And.intro hsv hsv')))
      have HMM := Aside0.mk (And.intro hm hm')
      clear e e' hm hm' hx hx' hy hy' hsk hsk' hsv hsv' h h' k0
      have hn154 := (asn_154 161 (.pointer (some ⟨g, 0, none⟩)) (by decide)).o
      have hn158 := (asn_158 161 (.pointer (some ⟨g, 0, none⟩)) (by decide)).o
      have hy : ∀ W, (Instr.typeAssert (.iface 161 (.pointer (some ⟨g, 0, none⟩))) 56 161 true).run Tryz.prog W = .ok (.tuple #[.pointer (some ⟨g, 0, none⟩), .bool true]) W := asy_161 _
      have hy' : ∀ W, (Instr.typeAssert (.iface 161 (.pointer (some ⟨g', 0, none⟩))) 56 161 false).run Tryz.prog W = .ok (.pointer (some ⟨g', 0, none⟩)) W := aso_161 _
      go_wp2_with (go_at_call 67; fail)
      refine ((HMM.out.1.below (Below.refl _ _)).k67).mono ?_
      rintro e x1 ⟨rfl, hb⟩
      have B1 := Aside0.mk (hb)
      clear hb
      go_wp2_with (go_at_call 67; fail)
      refine ((HMM.out.2.below B1.out).k67).mono ?_
      rintro e x2 ⟨rfl, hb⟩
      have B2 := Aside0.mk (below_step B1.out hb)
      clear hb
      go_wp2_with (go_at_call 35; fail)
      refine (HT.out.2.2.2.2.1 _ _ dk dk' _ _ x2 ok ok' A i HX.out.2.2.1 HX.out.2.2.2 (HX.out.1.below B2.out) (HX.out.2.1.below B2.out) HT.out.2.2.1 (HI.out.2.2.1.below B2.out)).mono ?_
      rintro e x3 ⟨⟨r, rfl, hr⟩, hb⟩
      have B3 := Aside0.mk (below_step B2.out hb)
      clear hb
      have HRR := Aside0.mk hr
      clear hr
      cases r with
      | false =>
       go_wp2
       go_ret
       exact ⟨tells_no (fun h => by have := HRR.out.2 (HP.out.1 h).1; simp at this), below_step HI.out.2.2.2.1 B3.out⟩
      | true =>
       go_wp2_with (go_at_call 68; fail)
       refine ((HMM.out.1.below B3.out).k68).mono ?_
       rintro e x4 ⟨rfl, hb⟩
       have B4 := Aside0.mk (below_step B3.out hb)
       clear hb
       go_wp2_with (go_at_call 68; fail)
       refine ((HMM.out.2.below B4.out).k68).mono ?_
       rintro e x5 ⟨rfl, hb⟩
       have B5 := Aside0.mk (below_step B4.out hb)
       clear hb
       go_wp2_with (go_at_call 35; fail)
       refine (HT.out.2.2.2.2.1 _ _ dv dv' _ _ x5 ok ok' A i HY.out.2.2.1 HY.out.2.2.2 (HY.out.1.below B5.out) (HY.out.2.1.below B5.out) HT.out.2.2.1 (HI.out.2.2.1.below B5.out)).mono ?_
       rintro e x6 ⟨⟨s, rfl, hs⟩, hb⟩
       have B6 := Aside0.mk (below_step B5.out hb)
       clear hb
       have HSS := Aside0.mk hs
       clear hs
       cases s with
       | false =>
        go_wp2
        go_ret
        exact ⟨tells_no (fun h => by have := HSS.out.2 (HP.out.1 h).2.1; simp at this), below_step HI.out.2.2.2.1 B6.out⟩
       | true =>
        have y1 := (HMM.out.1.below B6.out).sorted
        have z1 := (HMM.out.2.below B6.out).sorted
        by_cases hq : fl = fl'
        rotate_left
        ·have qb : (fl == fl') = false := by simpa using hq
         have qb2 : (fl != fl') = true := by simpa using hq
         have HQ := Aside0.mk hq
         clear hq
         go_upto_region 37 with fail
         refine start_ (n := 9) (S := fun w' => w'.cell? ⟨g, 1, none⟩ = some (.bool fl) ∧ w'.cell? ⟨g', 1, none⟩ = some (.bool fl')) (ds := []) (ba 9 0) (by kernel_rfl) rfl rfl ⟨y1, z1⟩ (fun hHeld => ?_)
         generalize hw_ : x6.drew = u1_0 at hHeld ⊢
         have Hu1_0 := Aside0.mk (show Below x6.heap.size x6 u1_0 from by rw [← hw_]; exact b3_ (Below.refl _ _))
         clear hw_
         clear y1 z1
         have Su1_0 := Aside0.mk hHeld
         refine pu 0 171 1 ?_
         refine pu 1 172 3 ?_
         refine pu 2 173 7 ?_
         refine ta 3 174 15 ?_
         refine pu 4 175 31 ?_
         refine pu 5 176 63 ?_
         refine pu 6 177 127 ?_
         refine ta 7 178 255 ?_
         refine pu 8 179 511 ?_
         refine done_ (by kernel_rfl) ?_
         clear hHeld
         go_wp2
         go_ret
         exact ⟨tells_no (fun h => HQ.out (HP.out.1 h).2.2), below_step (below_step HI.out.2.2.2.1 B6.out) Hu1_0.out⟩
        have HQ := Aside0.mk hq
        rw [← hq] at z1
        clear hq
        go_upto_region 37 with fail
        refine start_ (n := 9) (S := fun w' => w'.cell? ⟨g, 1, none⟩ = some (.bool fl) ∧ w'.cell? ⟨g', 1, none⟩ = some (.bool fl)) (ds := []) (ba 9 0) (by kernel_rfl) rfl rfl ⟨y1, z1⟩ (fun hHeld => ?_)
        generalize hw_ : x6.drew = u1_0 at hHeld ⊢
        have Hu1_0 := Aside0.mk (show Below x6.heap.size x6 u1_0 from by rw [← hw_]; exact b3_ (Below.refl _ _))
        clear hw_
        clear y1 z1
        have Su1_0 := Aside0.mk hHeld
        refine pu 0 171 1 ?_
        refine pu 1 172 3 ?_
        refine pu 2 173 7 ?_
        refine ta 3 174 15 ?_
        refine pu 4 175 31 ?_
        refine pu 5 176 63 ?_
        refine pu 6 177 127 ?_
        refine ta 7 178 255 ?_
        refine pu 8 179 511 ?_
        refine done_ (by kernel_rfl) ?_
        clear hHeld
        have B7 := Aside0.mk (below_step B6.out Hu1_0.out)
        obtain ⟨x7, hx_⟩ : ∃ x, x = u1_0 := ⟨_, rfl⟩
        rw [← hx_] at B7 ⊢
        clear Su1_0 Hu1_0
        clear hx_
        have fl20 : ∀ W, (Instr.field 61 (.agg #[.string nmKey, .iface q0 p0, .bool false, .slice none 0 0, .slice none 0 0]) 2).run Tryz.prog W = .ok (.bool false) W := fun W => by kernel_rfl
        have fl30 : ∀ W, (Instr.field 61 (.agg #[.string nmKey, .iface q0 p0, .bool false, .slice none 0 0, .slice none 0 0]) 3).run Tryz.prog W = .ok (.agg #[.slice none 0 0, .slice none 0 0]) W := fun W => by kernel_rfl
        have fl21 : ∀ W, (Instr.field 61 (.agg #[.string nmValue, .iface q1 p1, .bool true, .slice none 0 0, .slice none 0 0]) 2).run Tryz.prog W = .ok (.bool true) W := fun W => by kernel_rfl
        have fl31 : ∀ W, (Instr.field 61 (.agg #[.string nmValue, .iface q1 p1, .bool true, .slice none 0 0, .slice none 0 0]) 3).run Tryz.prog W = .ok (.agg #[.slice none 0 0, .slice none 0 0]) W := fun W => by kernel_rfl
        have fl20' : ∀ W, (Instr.field 61 (.agg #[.string nmKey, .iface q0' p0', .bool false, .slice none 0 0, .slice none 0 0]) 2).run Tryz.prog W = .ok (.bool false) W := fun W => by kernel_rfl
        have fl30' : ∀ W, (Instr.field 61 (.agg #[.string nmKey, .iface q0' p0', .bool false, .slice none 0 0, .slice none 0 0]) 3).run Tryz.prog W = .ok (.agg #[.slice none 0 0, .slice none 0 0]) W := fun W => by kernel_rfl
        have fl21' : ∀ W, (Instr.field 61 (.agg #[.string nmValue, .iface q1' p1', .bool true, .slice none 0 0, .slice none 0 0]) 2).run Tryz.prog W = .ok (.bool true) W := fun W => by kernel_rfl
        have fl31' : ∀ W, (Instr.field 61 (.agg #[.string nmValue, .iface q1' p1', .bool true, .slice none 0 0, .slice none 0 0]) 3).run Tryz.prog W = .ok (.agg #[.slice none 0 0, .slice none 0 0]) W := fun W => by kernel_rfl
        go_wp2_with (go_at_call 69; fail)
        refine ((HMM.out.1.below B7.out).k69).mono ?_
        rintro e x8 ⟨rfl, hb⟩
        have B8 := Aside0.mk (below_step B7.out hb)
        clear hb
        go_wp2_with (go_at_call 69; fail)
        refine ((HMM.out.2.below B8.out).k69).mono ?_
        rintro e x9 ⟨rfl, hb⟩
        have B9 := Aside0.mk (below_step B8.out hb)
        clear hb
        go_wp2_with (go_at_call 70; fail)
        refine ((HMM.out.1.below B9.out).k70).mono ?_
        rintro e x10 ⟨rfl, hb⟩
        have B10 := Aside0.mk (below_step B9.out hb)
        clear hb
        go_wp2_with (go_at_call 70; fail)
        refine ((HMM.out.2.below B10.out).k70).mono ?_
        rintro e x11 ⟨rfl, hb⟩
        have B11 := Aside0.mk (below_step B10.out hb)
        clear hb
        have k0 : x11.cell? ⟨w3.heap.size, 0, none⟩ = some (.bool mt) := (blk_cell (blk_below HI.out.2.2.2.2 B11.out) 0).trans rfl
        cases mt with
        | false =>
         go_wp2
         go_ret
         exact ⟨tells_yes (HP.out.2 ⟨HRR.out.1 (by first | rfl | trivial), HSS.out.1 (by first | rfl | trivial), HQ.out⟩), below_step HI.out.2.2.2.1 B11.out⟩
        | true =>
         go_wp2_with (go_at_call 69; fail)
         refine ((HMM.out.1.below B11.out).k69).mono ?_
         rintro e x12 ⟨rfl, hb⟩
         have B12 := Aside0.mk (below_step B11.out hb)
         clear hb
         clear k0
         go_wp2_with (go_at_call 69; fail)
         refine ((HMM.out.2.below B12.out).k69).mono ?_
         rintro e x13 ⟨rfl, hb⟩
         have B13 := Aside0.mk (below_step B12.out hb)
         clear hb
         go_wp2_with (go_at_call 52; fail)
         refine (meta52 x13).mono ?_
         rintro e x14 ⟨rfl, hb⟩
         have B14 := Aside0.mk (below_step B13.out hb)
         clear hb
         go_wp2_with (go_at_call 70; fail)
         refine ((HMM.out.1.below B14.out).k70).mono ?_
         rintro e x15 ⟨rfl, hb⟩
         have B15 := Aside0.mk (below_step B14.out hb)
         clear hb
         go_wp2_with (go_at_call 70; fail)
         refine ((HMM.out.2.below B15.out).k70).mono ?_
         rintro e x16 ⟨rfl, hb⟩
         have B16 := Aside0.mk (below_step B15.out hb)
         clear hb
         go_wp2_with (go_at_call 52; fail)
         refine (meta52 x16).mono ?_
         rintro e x17 ⟨rfl, hb⟩
         have B17 := Aside0.mk (below_step B16.out hb)
         clear hb
         go_wp2
         go_ret
         exact ⟨tells_yes (HP.out.2 ⟨HRR.out.1 (by first | rfl | trivial), HSS.out.1 (by first | rfl | trivial), HQ.out⟩), below_step HI.out.2.2.2.1 B17.out⟩
    ·
     as_aux_lemma =>
      rw [h]
      have h' : tyN d' = 165 := HTY.out.symm.trans h
      obtain ⟨ds, rfl, hln, hs⟩ := TDs.struct_of (show TDs (TD n) T d from HT.out.1) h rfl
      obtain ⟨ds', rfl, hln', hs'⟩ := TDs.struct_of (show TDs (TD n) T' d' from HT.out.2.1) h' rfl
      have hI := HI.out.1
      have hI' := HI.out.2.1
      simp only [DTIn, ptrAt] at hI hI'
      obtain ⟨g, SA, c, mp, e, hk, hg, hc1, hc2, hr1⟩ := hI
      obtain ⟨g', SA', c', mp', e', hk', hg', hc1', hc2', hr1'⟩ := hI'
      obtain rfl : a = ⟨g, 0, none⟩ := by injection e with _ e1; injection e1 with e2; injection e2
      obtain rfl : a' = ⟨g', 0, none⟩ := by injection e' with _ e1; injection e1 with e2; injection e2
      have HP := Aside0.mk (show P ↔ ds = ds' from by rw [HPP.out]; simp)
      have HX := Aside0.mk (And.intro (show FsAt wr ok SA ds from hr1) (And.intro (show FsAt wr ok' SA' ds' from hr1') (And.intro hs (And.intro hs' (And.intro hln hln')))))
      have y0 : wr.cell? ⟨g, 0, none⟩ = some (.slice SA ds.length c) := (blk_cell hg 0).trans rfl
      have z0 : wr.cell? ⟨g', 0, none⟩ = some (.slice SA' ds'.length c') := (blk_cell hg' 0).trans rfl
      clear e e' hk hk' hg hg' h h' hc1 hc2 hc1' hc2' hr1 hr1' hs hs' hln hln'
      have hn154 := (asn_154 165 (.pointer (some ⟨g, 0, none⟩)) (by decide)).o
      have hn158 := (asn_158 165 (.pointer (some ⟨g, 0, none⟩)) (by decide)).o
      have hn161 := (asn_161 165 (.pointer (some ⟨g, 0, none⟩)) (by decide)).o
      have hy : ∀ W, (Instr.typeAssert (.iface 165 (.pointer (some ⟨g, 0, none⟩))) 56 165 true).run Tryz.prog W = .ok (.tuple #[.pointer (some ⟨g, 0, none⟩), .bool true]) W := asy_165 _
      have hy' : ∀ W, (Instr.typeAssert (.iface 165 (.pointer (some ⟨g', 0, none⟩))) 56 165 false).run Tryz.prog W = .ok (.pointer (some ⟨g', 0, none⟩)) W := aso_165 _
      by_cases hl : ds.length = ds'.length
      rotate_left
      ·have hz : ¬ ((ds.length : Int) = (ds'.length : Int)) := by omega
       have q1 : decide ((ds.length : Int) = (ds'.length : Int)) = false := decide_eq_false hz
       have q2 : ((ds.length : Int) = (ds'.length : Int)) = False := eq_false hz
       have q3 : ((ds.length : Int) != (ds'.length : Int)) = true := by simpa using hz
       have q4 : (ds.length != ds'.length) = true := by simpa using hl
       have HL := Aside0.mk hl
       clear hl hz
       go_upto_region 52 with fail
       refine start_ (n := 11) (S := fun w' => w'.cell? ⟨w3.heap.size, 0, none⟩ = some (.bool mt) ∧ w'.cell? ⟨g, 0, none⟩ = some (.slice SA ds.length c) ∧ w'.cell? ⟨g', 0, none⟩ = some (.slice SA' ds'.length c')) (ds := []) (ba 11 0) (by kernel_rfl) rfl rfl ⟨k0, y0, z0⟩ (fun hHeld => ?_)
       generalize hw_ : wr.drew = u1_0 at hHeld ⊢
       have Hu1_0 := Aside0.mk (show Below wr.heap.size wr u1_0 from by rw [← hw_]; exact b3_ (Below.refl _ _))
       clear hw_
       clear k0 y0 z0
       have Su1_0 := Aside0.mk hHeld
       refine pu 0 217 1 ?_
       refine pu 1 218 3 ?_
       refine pu 2 219 7 ?_
       refine ta 3 220 15 ?_
       refine pu 4 221 31 ?_
       refine pu 5 222 63 ?_
       refine pu 6 223 127 ?_
       refine pu 7 224 255 ?_
       refine ta 8 225 511 ?_
       refine pu 9 226 1023 ?_
       refine pu 10 227 2047 ?_
       refine done_ (by kernel_rfl) ?_
       clear hHeld
       have k0 := Su1_0.out.1
       have y0 := Su1_0.out.2.1
       have z0 := Su1_0.out.2.2
       have HB1 := Aside0.mk (below_step HI.out.2.2.2.1 Hu1_0.out)
       go_wp2
       go_ret
       exact ⟨tells_no (fun h => HL.out (by rw [HP.out.1 h])), HB1.out⟩
      have HL := Aside0.mk hl
      rw [← hl] at z0
      clear hl
      go_upto_region 52 with fail
      refine start_ (n := 11) (S := fun w' => w'.cell? ⟨w3.heap.size, 0, none⟩ = some (.bool mt) ∧ w'.cell? ⟨g, 0, none⟩ = some (.slice SA ds.length c) ∧ w'.cell? ⟨g', 0, none⟩ = some (.slice SA' ds.length c')) (ds := []) (ba 11 0) (by kernel_rfl) rfl rfl ⟨k0, y0, z0⟩ (fun hHeld => ?_)
      generalize hw_ : wr.drew = u1_0 at hHeld ⊢
      have Hu1_0 := Aside0.mk (show Below wr.heap.size wr u1_0 from by rw [← hw_]; exact b3_ (Below.refl _ _))
      clear hw_
      clear k0 y0 z0
      have Su1_0 := Aside0.mk hHeld
      refine pu 0 217 1 ?_
      refine pu 1 218 3 ?_
      refine pu 2 219 7 ?_
      refine ta 3 220 15 ?_
      refine pu 4 221 31 ?_
      refine pu 5 222 63 ?_
      refine pu 6 223 127 ?_
      refine pu 7 224 255 ?_
      refine ta 8 225 511 ?_
      refine pu 9 226 1023 ?_
      refine pu 10 227 2047 ?_
      refine done_ (by kernel_rfl) ?_
      clear hHeld
      have k0 := Su1_0.out.1
      have y0 := Su1_0.out.2.1
      have z0 := Su1_0.out.2.2
      have HB1 := Aside0.mk (below_step HI.out.2.2.2.1 Hu1_0.out)
      have HY := Aside0.mk (And.intro k0 (And.intro y0 z0))
      go_wp2
      clear k0 y0 z0
      go_loopg [233] ds.length (fun kq v233 wq => ∃ j : Nat, v233 = .int .i64 (j : Int) ∧ Aside0 (j + kq = ds.length ∧ Below u1_0.heap.size u1_0 wq ∧ ∀ (k : Nat) (hk : k < ds.length) (hk' : k < ds'.length), k < j → ds[k] = ds'[k]))
      case atStart => exact ⟨0, rfl, ⟨⟨by omega, Below.refl _ _, fun k hk hk' h => absurd h (by omega)⟩⟩⟩
      case round =>
       obtain ⟨j, rfl, HR⟩ := hrel
       by_cases hj : j < ds.length
       rotate_left
       ·have hd : decide ((j : Int) < (ds.length : Int)) = false := by simpa using hj
        have HF := Aside0.mk (show ds = ds' from List.ext_getElem HL.out (fun k hk hk' => HR.out.2.2 k hk hk' (by omega)))
        go_wp2
        go_ret
        exact ⟨tells_yes (HP.out.2 HF.out), below_step HB1.out HR.out.2.1⟩
       have hd : decide ((j : Int) < (ds.length : Int)) = true := by simpa using hj
       have hj' : j < ds'.length := by have := HL.out; omega
       have e1 : wrap64 ((j : Int) + 1) = ((j + 1 : Nat) : Int) := by have := HX.out.2.2.2.2.1; rw [w64_id _ (by omega) (by omega)]; omega
       have E1 := Aside0.mk e1
       clear e1
       have HBW := Aside0.mk (below_step Hu1_0.out HR.out.2.1)
       obtain ⟨b, x, hA, hx, y1, y2, y3, y4, y5⟩ := (HX.out.1.below HBW.out).get j hj
       obtain ⟨b', x', hA', hx', z1, z2, z3, z4, z5⟩ := (HX.out.2.1.below HBW.out).get j hj'
       have y0 := pw_cell_below HR.out.2.1 HY.out.2.1
       have z0 := pw_cell_below HR.out.2.1 HY.out.2.2
       rw [hA] at y0
       rw [hA'] at z0
       obtain ⟨T1, hT1⟩ := HX.out.2.2.1 _ (List.getElem_mem hj)
       obtain ⟨T2, hT2⟩ := HX.out.2.2.2.1 _ (List.getElem_mem hj')
       obtain ⟨q, a_, rfl⟩ := hx.form
       obtain ⟨q', a_', rfl⟩ := hx'.form
       obtain ⟨p, hp⟩ : ∃ p, p = Value.pointer (some a_) := ⟨_, rfl⟩
       obtain ⟨p', hp'⟩ : ∃ p, p = Value.pointer (some a_') := ⟨_, rfl⟩
       rw [← hp] at hx y2
       rw [← hp'] at hx' z2
       generalize hf : ds[j] = fj at hx hT1 y1 y3
       generalize hf' : ds'[j] = fj' at hx' hT2 z1 z3
       obtain ⟨nm, ty, nb⟩ := fj
       obtain ⟨nm', ty', nb'⟩ := fj'
       simp only [DF.name, DF.null, DF.type] at hx hx' hT1 hT2 y1 y3 z1 z3
       have HZ := Aside0.mk (And.intro hx (And.intro hx' (And.intro hT1 hT2)))
       have HF := Aside0.mk (And.intro hf hf')
       have HJ := Aside0.mk (And.intro hj hj')
       have qi : (j < ds.length) = True := eq_true hj
       have qi' : ((j : Int) < (ds.length : Int)) = True := eq_true (by omega)
       clear hp hp' hx hx' hT1 hT2 hf hf' hA hA'
       have bo1 : ∀ o : Array Value, Below wr.heap.size wr (wr.alloc (.cells o 61)) := fun o => (Below.refl wr.heap.size wr).alloc (Nat.le_refl _) _
       have bo2 : ∀ o o' : Array Value, Below wr.heap.size wr ((wr.alloc (.cells o 61)).alloc (.cells o' 61)) := fun o o' => (bo1 o).alloc (by rw [alloc_size_]; omega) _
       have y0' : ∀ o : Array Value, (wr.alloc (.cells o 61)).cell? ⟨g, 0, none⟩ = some (.slice (some ⟨b, 0, none⟩) ds.length c) := fun o => pw_cell_below (bo1 o) y0
       have y0'' : ∀ o o' : Array Value, ((wr.alloc (.cells o 61)).alloc (.cells o' 61)).cell? ⟨g, 0, none⟩ = some (.slice (some ⟨b, 0, none⟩) ds.length c) := fun o o' => pw_cell_below (bo2 o o') y0
       have y1' : ∀ o : Array Value, (wr.alloc (.cells o 61)).cell? ⟨b, j * 5, none⟩ = some (.string nm) := fun o => pw_cell_below (bo1 o) y1
       have y1'' : ∀ o o' : Array Value, ((wr.alloc (.cells o 61)).alloc (.cells o' 61)).cell? ⟨b, j * 5, none⟩ = some (.string nm) := fun o o' => pw_cell_below (bo2 o o') y1
       have y2' : ∀ o : Array Value, (wr.alloc (.cells o 61)).cell? ⟨b, j * 5 + 1, none⟩ = some (.iface q p) := fun o => pw_cell_below (bo1 o) y2
       have y2'' : ∀ o o' : Array Value, ((wr.alloc (.cells o 61)).alloc (.cells o' 61)).cell? ⟨b, j * 5 + 1, none⟩ = some (.iface q p) := fun o o' => pw_cell_below (bo2 o o') y2
       have y3' : ∀ o : Array Value, (wr.alloc (.cells o 61)).cell? ⟨b, j * 5 + 2, none⟩ = some (.bool nb) := fun o => pw_cell_below (bo1 o) y3
       have y3'' : ∀ o o' : Array Value, ((wr.alloc (.cells o 61)).alloc (.cells o' 61)).cell? ⟨b, j * 5 + 2, none⟩ = some (.bool nb) := fun o o' => pw_cell_below (bo2 o o') y3
       have y4' : ∀ o : Array Value, (wr.alloc (.cells o 61)).cell? ⟨b, j * 5 + 3, none⟩ = some (.slice none 0 0) := fun o => pw_cell_below (bo1 o) y4
       have y4'' : ∀ o o' : Array Value, ((wr.alloc (.cells o 61)).alloc (.cells o' 61)).cell? ⟨b, j * 5 + 3, none⟩ = some (.slice none 0 0) := fun o o' => pw_cell_below (bo2 o o') y4
       have y5' : ∀ o : Array Value, (wr.alloc (.cells o 61)).cell? ⟨b, j * 5 + 4, none⟩ = some (.slice none 0 0) := fun o => pw_cell_below (bo1 o) y5
       have y5'' : ∀ o o' : Array Value, ((wr.alloc (.cells o 61)).alloc (.cells o' 61)).cell? ⟨b, j * 5 + 4, none⟩ = some (.slice none 0 0) := fun o o' => pw_cell_below (bo2 o o') y5
       have z0' : ∀ o : Array Value, (wr.alloc (.cells o 61)).cell? ⟨g', 0, none⟩ = some (.slice (some ⟨b', 0, none⟩) ds.length c') := fun o => pw_cell_below (bo1 o) z0
       have z0'' : ∀ o o' : Array Value, ((wr.alloc (.cells o 61)).alloc (.cells o' 61)).cell? ⟨g', 0, none⟩ = some (.slice (some ⟨b', 0, none⟩) ds.length c') := fun o o' => pw_cell_below (bo2 o o') z0
       have z1' : ∀ o : Array Value, (wr.alloc (.cells o 61)).cell? ⟨b', j * 5, none⟩ = some (.string nm') := fun o => pw_cell_below (bo1 o) z1
       have z1'' : ∀ o o' : Array Value, ((wr.alloc (.cells o 61)).alloc (.cells o' 61)).cell? ⟨b', j * 5, none⟩ = some (.string nm') := fun o o' => pw_cell_below (bo2 o o') z1
       have z2' : ∀ o : Array Value, (wr.alloc (.cells o 61)).cell? ⟨b', j * 5 + 1, none⟩ = some (.iface q' p') := fun o => pw_cell_below (bo1 o) z2
       have z2'' : ∀ o o' : Array Value, ((wr.alloc (.cells o 61)).alloc (.cells o' 61)).cell? ⟨b', j * 5 + 1, none⟩ = some (.iface q' p') := fun o o' => pw_cell_below (bo2 o o') z2
       have z3' : ∀ o : Array Value, (wr.alloc (.cells o 61)).cell? ⟨b', j * 5 + 2, none⟩ = some (.bool nb') := fun o => pw_cell_below (bo1 o) z3
       have z3'' : ∀ o o' : Array Value, ((wr.alloc (.cells o 61)).alloc (.cells o' 61)).cell? ⟨b', j * 5 + 2, none⟩ = some (.bool nb') := fun o o' => pw_cell_below (bo2 o o') z3
       have z4' : ∀ o : Array Value, (wr.alloc (.cells o 61)).cell? ⟨b', j * 5 + 3, none⟩ = some (.slice none 0 0) := fun o => pw_cell_below (bo1 o) z4
       have z4'' : ∀ o o' : Array Value, ((wr.alloc (.cells o 61)).alloc (.cells o' 61)).cell? ⟨b', j * 5 + 3, none⟩ = some (.slice none 0 0) := fun o o' => pw_cell_below (bo2 o o') z4
       have z5' : ∀ o : Array Value, (wr.alloc (.cells o 61)).cell? ⟨b', j * 5 + 4, none⟩ = some (.slice none 0 0) := fun o => pw_cell_below (bo1 o) z5
       have z5'' : ∀ o o' : Array Value, ((wr.alloc (.cells o 61)).alloc (.cells o' 61)).cell? ⟨b', j * 5 + 4, none⟩ = some (.slice none 0 0) := fun o o' => pw_cell_below (bo2 o o') z5
       clear bo1 bo2
       go_upto_region 57 with fail
       go_cut [17, 18] (fun v17 v18 wc => ∃ g1 g2 : Nat, v17 = .pointer (some ⟨g1, 0, none⟩) ∧ v18 = .pointer (some ⟨g2, 0, none⟩) ∧ Aside0 (wc.heap[g1]? = some (.cells #[.string nm, .iface q p, .bool nb, .slice none 0 0, .slice none 0 0] 61 (0, 0)) ∧ wc.heap[g2]? = some (.cells #[.string nm', .iface q' p', .bool nb', .slice none 0 0, .slice none 0 0] 61 (0, 0)) ∧ Below wr.heap.size wr wc))
       case first =>
        go_region
        all_goals (go_wp2; go_meet)
        ·case rel => exact ⟨_, _, rfl, rfl, ⟨⟨blk_drew_ (blk_alloc_ (blk_new _ _)), blk_drew_ (blk_new_at (by rw [alloc_size_])), bl⟩⟩⟩
        ·case rel => exact ⟨_, _, rfl, rfl, ⟨⟨blk_drew_ (blk_new_at (by rw [alloc_size_])), blk_drew_ (blk_alloc_ (blk_new _ _)), bl⟩⟩⟩
       case rest =>
        obtain ⟨g1, g2, rfl, rfl, HCC⟩ := hcut
        have HK := Aside0.mk (show P → nm = nm' ∧ ty = ty' ∧ nb = nb' from fun h => by
         have e := HP.out.1 h
         have e2 : DF.mk nm ty nb = DF.mk nm' ty' nb' := by rw [← HF.out.1, ← HF.out.2]; simp only [e]
         injection e2 with a1 a2 a3
         exact ⟨a1, a2, a3⟩)
        clear y0 y0' y0'' y1 y1' y1'' y2 y2' y2'' y3 y3' y3'' y4 y4' y4'' y5 y5' y5'' z0 z0' z0'' z1 z1' z1'' z2 z2' z2'' z3 z3' z3'' z4 z4' z4'' z5 z5' z5''
        have c0 : wc.cell? ⟨g1, 0, none⟩ = some (.string nm) := (blk_cell HCC.out.1 0).trans rfl
        have d0 : wc.cell? ⟨g2, 0, none⟩ = some (.string nm') := (blk_cell HCC.out.2.1 0).trans rfl
        have c1 : wc.cell? ⟨g1, 1, none⟩ = some (.iface q p) := (blk_cell HCC.out.1 1).trans rfl
        have d1 : wc.cell? ⟨g2, 1, none⟩ = some (.iface q' p') := (blk_cell HCC.out.2.1 1).trans rfl
        have c2 : wc.cell? ⟨g1, 2, none⟩ = some (.bool nb) := (blk_cell HCC.out.1 2).trans rfl
        have d2 : wc.cell? ⟨g2, 2, none⟩ = some (.bool nb') := (blk_cell HCC.out.2.1 2).trans rfl
        have c3 : wc.cell? ⟨g1, 3, none⟩ = some (.slice none 0 0) := (blk_cell HCC.out.1 3).trans rfl
        have d3 : wc.cell? ⟨g2, 3, none⟩ = some (.slice none 0 0) := (blk_cell HCC.out.2.1 3).trans rfl
        have c4 : wc.cell? ⟨g1, 4, none⟩ = some (.slice none 0 0) := (blk_cell HCC.out.1 4).trans rfl
        have d4 : wc.cell? ⟨g2, 4, none⟩ = some (.slice none 0 0) := (blk_cell HCC.out.2.1 4).trans rfl
        by_cases hn : nm = nm'
        rotate_left
        ·have qb : (nm.toList == nm'.toList) = false := by rw [beq_eq_false_iff_ne]; exact fun e => hn (toList_inj e)
         have HN := Aside0.mk hn
         clear hn
         go_wp2
         go_ret
         exact ⟨tells_no (fun h => HN.out (HK.out h).1), below_step HB1.out (below_step HR.out.2.1 HCC.out.2.2)⟩
        have HN1 := Aside0.mk hn
        rw [← hn] at d0
        clear hn
        by_cases hb : nb = nb'
        rotate_left
        ·have qb : (nb == nb') = false := by rw [beq_eq_false_iff_ne]; exact hb
         have qb2 : (nb != nb') = true := by simpa using hb
         have HN := Aside0.mk hb
         clear hb
         go_wp2
         go_ret
         exact ⟨tells_no (fun h => HN.out (HK.out h).2.2), below_step HB1.out (below_step HR.out.2.1 HCC.out.2.2)⟩
        have HN2 := Aside0.mk hb
        rw [← hb] at d2
        clear hb
        go_wp2_with (go_at_call 35; fail)
        refine (HT.out.2.2.2.2.1 _ _ ty ty' _ _ wc ok ok' A i HZ.out.2.2.1 HZ.out.2.2.2 (HZ.out.1.below HCC.out.2.2) (HZ.out.2.1.below HCC.out.2.2) HT.out.2.2.1 (HI.out.2.2.1.below (below_step HBW.out HCC.out.2.2))).mono ?_
        rintro e x1 ⟨⟨r, rfl, hr⟩, hb1⟩
        have HRR := Aside0.mk hr
        have HX1 := Aside0.mk hb1
        clear hr hb1
        clear c0 d0 c1 d1 c2 d2 c3 d3 c4 d4
        have k0 : x1.cell? ⟨w3.heap.size, 0, none⟩ = some (.bool mt) := (blk_cell (blk_below HI.out.2.2.2.2 (below_step (below_step HBW.out HCC.out.2.2) HX1.out)) 0).trans rfl
        have c0 : x1.cell? ⟨g1, 0, none⟩ = some (.string nm) := (blk_cell (blk_below HCC.out.1 HX1.out) 0).trans rfl
        have d0 : x1.cell? ⟨g2, 0, none⟩ = some (.string nm') := (blk_cell (blk_below HCC.out.2.1 HX1.out) 0).trans rfl
        have c1 : x1.cell? ⟨g1, 1, none⟩ = some (.iface q p) := (blk_cell (blk_below HCC.out.1 HX1.out) 1).trans rfl
        have d1 : x1.cell? ⟨g2, 1, none⟩ = some (.iface q' p') := (blk_cell (blk_below HCC.out.2.1 HX1.out) 1).trans rfl
        have c2 : x1.cell? ⟨g1, 2, none⟩ = some (.bool nb) := (blk_cell (blk_below HCC.out.1 HX1.out) 2).trans rfl
        have d2 : x1.cell? ⟨g2, 2, none⟩ = some (.bool nb') := (blk_cell (blk_below HCC.out.2.1 HX1.out) 2).trans rfl
        have c3 : x1.cell? ⟨g1, 3, none⟩ = some (.slice none 0 0) := (blk_cell (blk_below HCC.out.1 HX1.out) 3).trans rfl
        have d3 : x1.cell? ⟨g2, 3, none⟩ = some (.slice none 0 0) := (blk_cell (blk_below HCC.out.2.1 HX1.out) 3).trans rfl
        have c4 : x1.cell? ⟨g1, 4, none⟩ = some (.slice none 0 0) := (blk_cell (blk_below HCC.out.1 HX1.out) 4).trans rfl
        have d4 : x1.cell? ⟨g2, 4, none⟩ = some (.slice none 0 0) := (blk_cell (blk_below HCC.out.2.1 HX1.out) 4).trans rfl
        cases r with
        | false =>
         go_wp2
         go_ret
         exact ⟨tells_no (fun h => by have := HRR.out.2 (HK.out h).2.1; simp at this), below_step HB1.out (below_step HR.out.2.1 (below_step HCC.out.2.2 HX1.out))⟩
        | true =>
         cases mt with
         | false =>
          go_wp2
          go_roundg (ds.length - (j + 1))
          case measure => have := HR.out.1; omega
          case rel =>
           refine ⟨j + 1, by first | (rw [E1.out]) | go_num, ⟨⟨by have := HR.out.1; omega, below_step HR.out.2.1 (below_step HCC.out.2.2 HX1.out), fun k hk hk' hlt => ?_⟩⟩⟩
           by_cases hkj : k < j
           ·exact HR.out.2.2 k hk hk' hkj
           ·have e : k = j := by omega
            subst e
            rw [HF.out.1, HF.out.2, ← HN1.out, ← HN2.out, HRR.out.1 (by first | rfl | trivial)]
         | true =>
          go_wp2_with (go_at_call 52; fail)
          refine (meta52 x1).mono ?_
          rintro e x2 ⟨rfl, hb2⟩
          have HX2 := Aside0.mk hb2
          clear hb2 k0
          clear c0 d0 c1 d1 c2 d2 c3 d3 c4 d4
          go_wp2
          go_roundg (ds.length - (j + 1))
          case measure => have := HR.out.1; omega
          case rel =>
           refine ⟨j + 1, by first | (rw [E1.out]) | go_num, ⟨⟨by have := HR.out.1; omega, below_step HR.out.2.1 (below_step HCC.out.2.2 (below_step HX1.out HX2.out)), fun k hk hk' hlt => ?_⟩⟩⟩
           by_cases hkj : k < j
           ·exact HR.out.2.2 k hk hk' hkj
           ·have e : k = j := by omega
            subst e
            rw [HF.out.1, HF.out.2, ← HN1.out, ← HN2.out, HRR.out.1 (by first | rfl | trivial)]
    ·
     as_aux_lemma =>
      exact absurd (.inl h) HNU.out
    ·
     as_aux_lemma =>
      exact absurd (.inr h) HNU.out
    ·
     as_aux_lemma =>
      rw [h]
      have h' : tyN d' = 122 := HTY.out.symm.trans h
      obtain ⟨u, s, rfl⟩ := TDs.stamp_of (show TDs (TD n) T d from HT.out.1) h rfl
      obtain ⟨u', s', rfl⟩ := TDs.stamp_of (show TDs (TD n) T' d' from HT.out.2.1) h' rfl
      have hI := HI.out.1
      have hI' := HI.out.2.1
      simp only [DTIn, ptrAt] at hI hI'
      obtain ⟨g, e, hk, hg⟩ := hI
      obtain ⟨g', e', hk', hg'⟩ := hI'
      obtain rfl : a = ⟨g, 0, none⟩ := by injection e with _ e1; injection e1 with e2; injection e2
      obtain rfl : a' = ⟨g', 0, none⟩ := by injection e' with _ e1; injection e1 with e2; injection e2
      have HP := Aside0.mk (show P ↔ (u = u' ∧ s = s') from by rw [HPP.out]; simp)
      obtain ⟨y0, y1⟩ := cb2 hg
      obtain ⟨z0, z1⟩ := cb2 hg'
      clear e e' hk hk' hg hg' h h'
      have hn154 := (asn_154 122 (.pointer (some ⟨g, 0, none⟩)) (by decide)).o
      have hn158 := (asn_158 122 (.pointer (some ⟨g, 0, none⟩)) (by decide)).o
      have hn161 := (asn_161 122 (.pointer (some ⟨g, 0, none⟩)) (by decide)).o
      have hn165 := (asn_165 122 (.pointer (some ⟨g, 0, none⟩)) (by decide)).o
      have hnu : ∀ W, (Instr.typeAssert (.iface 122 (.pointer (some ⟨g, 0, none⟩))) 56 169 true).run Tryz.prog W = .ok (.tuple #[.nilIface, .bool false]) W := asn_un 122 _ (by decide) (by decide) (by decide)
      have hy : ∀ W, (Instr.typeAssert (.iface 122 (.pointer (some ⟨g, 0, none⟩))) 56 122 true).run Tryz.prog W = .ok (.tuple #[.pointer (some ⟨g, 0, none⟩), .bool true]) W := asy_122 _
      have hy' : ∀ W, (Instr.typeAssert (.iface 122 (.pointer (some ⟨g', 0, none⟩))) 56 122 false).run Tryz.prog W = .ok (.pointer (some ⟨g', 0, none⟩)) W := aso_122 _
      by_cases hm : u = u'
      rotate_left
      ·have qb : (u == u') = false := by simpa using hm
       have HM2 := Aside0.mk hm
       clear hm
       go_upto_region 94 with fail
       refine start_ (n := 21) (S := fun w' => w'.cell? ⟨g, 0, none⟩ = some (.int .i64 u) ∧ w'.cell? ⟨g, 1, none⟩ = some (.string s) ∧ w'.cell? ⟨g', 0, none⟩ = some (.int .i64 u') ∧ w'.cell? ⟨g', 1, none⟩ = some (.string s')) (ds := []) (ba 21 0) (by kernel_rfl) rfl rfl ⟨y0, y1, z0, z1⟩ (fun hHeld => ?_)
       generalize hw_ : wr.drew = u1_0 at hHeld ⊢
       have Hu1_0 := Aside0.mk (show Below wr.heap.size wr u1_0 from by rw [← hw_]; exact b3_ (Below.refl _ _))
       clear hw_
       clear y0 y1 z0 z1
       have Su1_0 := Aside0.mk hHeld
       refine pu 0 363 1 ?_
       refine pu 1 364 3 ?_
       refine pu 2 365 7 ?_
       refine ta 3 366 15 ?_
       refine pu 4 367 31 ?_
       refine pu 5 368 63 ?_
       refine pu 6 369 127 ?_
       refine ta 7 370 255 ?_
       refine pu 8 371 511 ?_
       refine pu 9 372 1023 ?_
       refine ou 10 373 2047 ?_
       refine ou 11 374 4095 ?_
       refine ou 12 375 8191 ?_
       refine ou 13 376 16383 ?_
       refine ou 14 377 32767 ?_
       refine ou 15 378 65535 ?_
       refine ou 16 379 131071 ?_
       refine ou 17 380 262143 ?_
       refine ou 18 381 524287 ?_
       refine pu 19 382 1048575 ?_
       refine pu 20 6 2097151 ?_
       refine done_ (by kernel_rfl) ?_
       clear hHeld
       have y0 := Su1_0.out.1
       have y1 := Su1_0.out.2.1
       have z0 := Su1_0.out.2.2.1
       have z1 := Su1_0.out.2.2.2
       have HB1 := Aside0.mk (below_step HI.out.2.2.2.1 Hu1_0.out)
       go_wp2
       go_ret
       exact ⟨tells_no (fun h => HM2.out (HP.out.1 h).1), HB1.out⟩
      have HM2 := Aside0.mk hm
      rw [← hm] at z0
      clear hm
      by_cases hm : s = s'
      rotate_left
      ·have qb : (s.toList == s'.toList) = false := by rw [beq_eq_false_iff_ne]; exact fun e => hm (toList_inj e)
       have HM3 := Aside0.mk hm
       clear hm
       go_upto_region 94 with fail
       refine start_ (n := 21) (S := fun w' => w'.cell? ⟨g, 0, none⟩ = some (.int .i64 u) ∧ w'.cell? ⟨g, 1, none⟩ = some (.string s) ∧ w'.cell? ⟨g', 0, none⟩ = some (.int .i64 u) ∧ w'.cell? ⟨g', 1, none⟩ = some (.string s')) (ds := []) (ba 21 0) (by kernel_rfl) rfl rfl ⟨y0, y1, z0, z1⟩ (fun hHeld => ?_)
       generalize hw_ : wr.drew = u1_0 at hHeld ⊢
       have Hu1_0 := Aside0.mk (show Below wr.heap.size wr u1_0 from by rw [← hw_]; exact b3_ (Below.refl _ _))
       clear hw_
       clear y0 y1 z0 z1
       have Su1_0 := Aside0.mk hHeld
       refine pu 0 363 1 ?_
       refine pu 1 364 3 ?_
       refine pu 2 365 7 ?_
       refine ta 3 366 15 ?_
       refine pu 4 367 31 ?_
       refine pu 5 368 63 ?_
       refine pu 6 369 127 ?_
       refine ta 7 370 255 ?_
       refine pu 8 371 511 ?_
       refine pu 9 372 1023 ?_
       refine pu 10 373 2047 ?_
       refine pu 11 374 4095 ?_
       refine pu 12 375 8191 ?_
       refine ta 13 376 16383 ?_
       refine pu 14 377 32767 ?_
       refine pu 15 378 65535 ?_
       refine pu 16 379 131071 ?_
       refine ta 17 380 262143 ?_
       refine pu 18 381 524287 ?_
       refine pu 19 382 1048575 ?_
       refine pu 20 6 2097151 ?_
       refine done_ (by kernel_rfl) ?_
       clear hHeld
       have y0 := Su1_0.out.1
       have y1 := Su1_0.out.2.1
       have z0 := Su1_0.out.2.2.1
       have z1 := Su1_0.out.2.2.2
       have HB1 := Aside0.mk (below_step HI.out.2.2.2.1 Hu1_0.out)
       go_wp2
       go_ret
       exact ⟨tells_no (fun h => HM3.out (HP.out.1 h).2), HB1.out⟩
      have HM3 := Aside0.mk hm
      rw [← hm] at z1
      clear hm
      go_upto_region 94 with fail
      refine start_ (n := 21) (S := fun w' => w'.cell? ⟨g, 0, none⟩ = some (.int .i64 u) ∧ w'.cell? ⟨g, 1, none⟩ = some (.string s) ∧ w'.cell? ⟨g', 0, none⟩ = some (.int .i64 u) ∧ w'.cell? ⟨g', 1, none⟩ = some (.string s)) (ds := []) (ba 21 0) (by kernel_rfl) rfl rfl ⟨y0, y1, z0, z1⟩ (fun hHeld => ?_)
      generalize hw_ : wr.drew = u1_0 at hHeld ⊢
      have Hu1_0 := Aside0.mk (show Below wr.heap.size wr u1_0 from by rw [← hw_]; exact b3_ (Below.refl _ _))
      clear hw_
      clear y0 y1 z0 z1
      have Su1_0 := Aside0.mk hHeld
      refine pu 0 363 1 ?_
      refine pu 1 364 3 ?_
      refine pu 2 365 7 ?_
      refine ta 3 366 15 ?_
      refine pu 4 367 31 ?_
      refine pu 5 368 63 ?_
      refine pu 6 369 127 ?_
      refine ta 7 370 255 ?_
      refine pu 8 371 511 ?_
      refine pu 9 372 1023 ?_
      refine pu 10 373 2047 ?_
      refine pu 11 374 4095 ?_
      refine pu 12 375 8191 ?_
      refine ta 13 376 16383 ?_
      refine pu 14 377 32767 ?_
      refine pu 15 378 65535 ?_
      refine pu 16 379 131071 ?_
      refine ta 17 380 262143 ?_
      refine pu 18 381 524287 ?_
      refine pu 19 382 1048575 ?_
      refine pu 20 6 2097151 ?_
      refine done_ (by kernel_rfl) ?_
      clear hHeld
      have y0 := Su1_0.out.1
      have y1 := Su1_0.out.2.1
      have z0 := Su1_0.out.2.2.1
      have z1 := Su1_0.out.2.2.2
      have HB1 := Aside0.mk (below_step HI.out.2.2.2.1 Hu1_0.out)
      go_wp2
      go_ret
      exact ⟨tells_yes (HP.out.2 ⟨HM2.out, HM3.out⟩), HB1.out⟩
    ·
     as_aux_lemma =>
      rw [h]
      have h' : tyN d' = 177 := HTY.out.symm.trans h
      obtain ⟨R, V, dr, dv, rfl, hs1, hs2⟩ := TDs.ree_of (show TDs (TD n) T d from HT.out.1) h rfl
      obtain ⟨R', V', dr', dv', rfl, hs1', hs2'⟩ := TDs.ree_of (show TDs (TD n) T' d' from HT.out.2.1) h' rfl
      have hI := HI.out.1
      have hI' := HI.out.2.1
      simp only [DTIn, ptrAt] at hI hI'
      obtain ⟨g, x, y, e, hk, hg, hx1, hx2⟩ := hI
      obtain ⟨g', x', y', e', hk', hg', hx1', hx2'⟩ := hI'
      obtain rfl : a = ⟨g, 0, none⟩ := by injection e with _ e1; injection e1 with e2; injection e2
      obtain rfl : a' = ⟨g', 0, none⟩ := by injection e' with _ e1; injection e1 with e2; injection e2
      obtain ⟨q1, a1_, rfl⟩ := hx1.form
      obtain ⟨p1, hp1⟩ : ∃ p, p = Value.pointer (some a1_) := ⟨_, rfl⟩
      rw [← hp1] at hx1 hg
      clear hp1
      obtain ⟨q2, a2_, rfl⟩ := hx2.form
      obtain ⟨p2, hp2⟩ : ∃ p, p = Value.pointer (some a2_) := ⟨_, rfl⟩
      rw [← hp2] at hx2 hg
      clear hp2
      obtain ⟨q1', a1'_, rfl⟩ := hx1'.form
      obtain ⟨p1', hp1'⟩ : ∃ p, p = Value.pointer (some a1'_) := ⟨_, rfl⟩
      rw [← hp1'] at hx1' hg'
      clear hp1'
      obtain ⟨q2', a2'_, rfl⟩ := hx2'.form
      obtain ⟨p2', hp2'⟩ : ∃ p, p = Value.pointer (some a2'_) := ⟨_, rfl⟩
      rw [← hp2'] at hx2' hg'
      clear hp2'
      have HP := Aside0.mk (show P ↔ (dr = dr' ∧ dv = dv') from by rw [HPP.out]; simp)
      have HX := Aside0.mk (And.intro hx1 (And.intro hx1' (And.intro hs1 hs1')))
      have HY := Aside0.mk (And.intro hx2 (And.intro hx2' (And.intro hs2 hs2')))
      obtain ⟨y0, y1, y2⟩ := cb3 hg
      obtain ⟨z0, z1, z2⟩ := cb3 hg'
      clear e e' hk hk' hg hg' h h' hx1 hx2 hx1' hx2' hs1 hs2 hs1' hs2'
      have hn154 := (asn_154 177 (.pointer (some ⟨g, 0, none⟩)) (by decide)).o
      have hn158 := (asn_158 177 (.pointer (some ⟨g, 0, none⟩)) (by decide)).o
      have hn161 := (asn_161 177 (.pointer (some ⟨g, 0, none⟩)) (by decide)).o
      have hn165 := (asn_165 177 (.pointer (some ⟨g, 0, none⟩)) (by decide)).o
      have hnu : ∀ W, (Instr.typeAssert (.iface 177 (.pointer (some ⟨g, 0, none⟩))) 56 169 true).run Tryz.prog W = .ok (.tuple #[.nilIface, .bool false]) W := asn_un 177 _ (by decide) (by decide) (by decide)
      have hn122 := (asn_122 177 (.pointer (some ⟨g, 0, none⟩)) (by decide)).o
      have hy : ∀ W, (Instr.typeAssert (.iface 177 (.pointer (some ⟨g, 0, none⟩))) 56 177 true).run Tryz.prog W = .ok (.tuple #[.pointer (some ⟨g, 0, none⟩), .bool true]) W := asy_177 _
      have hy' : ∀ W, (Instr.typeAssert (.iface 177 (.pointer (some ⟨g', 0, none⟩))) 56 177 false).run Tryz.prog W = .ok (.pointer (some ⟨g', 0, none⟩)) W := aso_177 _
      go_upto_region 98 with fail
      refine start_ (n := 30) (S := fun w' => w'.cell? ⟨g, 0, none⟩ = some (.iface q1 p1) ∧ w'.cell? ⟨g, 1, none⟩ = some (.iface q2 p2) ∧ w'.cell? ⟨g, 2, none⟩ = some (.bool true) ∧ w'.cell? ⟨g', 0, none⟩ = some (.iface q1' p1') ∧ w'.cell? ⟨g', 1, none⟩ = some (.iface q2' p2') ∧ w'.cell? ⟨g', 2, none⟩ = some (.bool true)) (ds := []) (ba 30 0) (by kernel_rfl) rfl rfl ⟨y0, y1, y2, z0, z1, z2⟩ (fun hHeld => ?_)
      generalize hw_ : wr.drew = u1_0 at hHeld ⊢
      have Hu1_0 := Aside0.mk (show Below wr.heap.size wr u1_0 from by rw [← hw_]; exact b3_ (Below.refl _ _))
      clear hw_
      clear y0 y1 y2 z0 z1 z2
      have Su1_0 := Aside0.mk hHeld
      refine pu 0 388 1 ?_
      refine pu 2 390 5 ?_
      refine pu 4 392 21 ?_
      refine one_ (i := 1) (N := some 389) (ba 30 23) rfl rfl (by kernel_rfl) (by decide) (fun K hK => ?_)
      refine goes_ Tryz.func72 (by kernel_rfl) rfl #[.pointer (some ⟨g, 0, none⟩)] (by rfl) rfl rfl (by (try simp only [List.map_toArray, List.map_cons, List.map_nil]); first | done | rfl) ?_
      refine (elem72 g _ u1_0 (Su1_0.out.2.1)).mono ?_
      rintro e u1_1 ⟨rfl, hb⟩
      have Hu1_1 := Aside0.mk (below_step Hu1_0.out hb)
      have Su1_1 := Aside0.mk (show u1_1.cell? ⟨g, 0, none⟩ = some (.iface q1 p1) ∧ u1_1.cell? ⟨g, 1, none⟩ = some (.iface q2 p2) ∧ u1_1.cell? ⟨g, 2, none⟩ = some (.bool true) ∧ u1_1.cell? ⟨g', 0, none⟩ = some (.iface q1' p1') ∧ u1_1.cell? ⟨g', 1, none⟩ = some (.iface q2' p2') ∧ u1_1.cell? ⟨g', 2, none⟩ = some (.bool true) from ⟨pw_cell_below hb Su1_0.out.1, pw_cell_below hb Su1_0.out.2.1, pw_cell_below hb Su1_0.out.2.2.1, pw_cell_below hb Su1_0.out.2.2.2.1, pw_cell_below hb Su1_0.out.2.2.2.2.1, pw_cell_below hb Su1_0.out.2.2.2.2.2⟩)
      clear hb
      refine ⟨_, rfl, ?_⟩
      refine hK.out _ _ Su1_1.out (fun hHeld => ?_)
      clear hK K
      refine no 389 ?_
      refine one_ (i := 3) (N := some 391) (ba 30 31) rfl rfl (by kernel_rfl) (by decide) (fun K hK => ?_)
      refine goes_ Tryz.func72 (by kernel_rfl) rfl #[.pointer (some ⟨g', 0, none⟩)] (by rfl) rfl rfl (by (try simp only [List.map_toArray, List.map_cons, List.map_nil]); first | done | rfl) ?_
      refine (elem72 g' _ u1_1 (Su1_1.out.2.2.2.2.1)).mono ?_
      rintro e u1_2 ⟨rfl, hb⟩
      have Hu1_2 := Aside0.mk (below_step Hu1_1.out hb)
      have Su1_2 := Aside0.mk (show u1_2.cell? ⟨g, 0, none⟩ = some (.iface q1 p1) ∧ u1_2.cell? ⟨g, 1, none⟩ = some (.iface q2 p2) ∧ u1_2.cell? ⟨g, 2, none⟩ = some (.bool true) ∧ u1_2.cell? ⟨g', 0, none⟩ = some (.iface q1' p1') ∧ u1_2.cell? ⟨g', 1, none⟩ = some (.iface q2' p2') ∧ u1_2.cell? ⟨g', 2, none⟩ = some (.bool true) from ⟨pw_cell_below hb Su1_1.out.1, pw_cell_below hb Su1_1.out.2.1, pw_cell_below hb Su1_1.out.2.2.1, pw_cell_below hb Su1_1.out.2.2.2.1, pw_cell_below hb Su1_1.out.2.2.2.2.1, pw_cell_below hb Su1_1.out.2.2.2.2.2⟩)
      clear hb
      refine ⟨_, rfl, ?_⟩
      refine hK.out _ _ Su1_2.out (fun hHeld => ?_)
      clear hK K
      refine no 391 ?_
      refine one_ (i := 5) (N := some 393) (ba 30 63) rfl rfl (by kernel_rfl) (by decide) (fun K hK => ?_)
      refine goes_ Tryz.func35 (by kernel_rfl) rfl #[.iface q2 p2, .iface q2' p2', .slice A i i] (by rfl) rfl rfl (by (try simp only [List.map_toArray, List.map_cons, List.map_nil]); first | done | rfl) ?_
      refine (HT.out.2.2.2.2.1 _ _ dv dv' _ _ u1_2 ok ok' A i HY.out.2.2.1 HY.out.2.2.2 (HY.out.1.below (Hu1_2.out)) (HY.out.2.1.below (Hu1_2.out)) HT.out.2.2.1 (HI.out.2.2.1.below (Hu1_2.out))).mono ?_
      rintro e u1_3 ⟨⟨s, rfl, hs⟩, hb⟩
      have Hu1_3 := Aside0.mk (below_step Hu1_2.out hb)
      have Su1_3 := Aside0.mk (show u1_3.cell? ⟨g, 0, none⟩ = some (.iface q1 p1) ∧ u1_3.cell? ⟨g, 1, none⟩ = some (.iface q2 p2) ∧ u1_3.cell? ⟨g, 2, none⟩ = some (.bool true) ∧ u1_3.cell? ⟨g', 0, none⟩ = some (.iface q1' p1') ∧ u1_3.cell? ⟨g', 1, none⟩ = some (.iface q2' p2') ∧ u1_3.cell? ⟨g', 2, none⟩ = some (.bool true) from ⟨pw_cell_below hb Su1_2.out.1, pw_cell_below hb Su1_2.out.2.1, pw_cell_below hb Su1_2.out.2.2.1, pw_cell_below hb Su1_2.out.2.2.2.1, pw_cell_below hb Su1_2.out.2.2.2.2.1, pw_cell_below hb Su1_2.out.2.2.2.2.2⟩)
      have HSS := Aside0.mk hs
      clear hs
      clear hb
      refine ⟨_, rfl, ?_⟩
      refine hK.out _ _ Su1_3.out (fun hHeld => ?_)
      clear hK K
      refine no 393 ?_
      cases s with
      | false =>
       refine pu 6 394 127 ?_
       refine ou 7 395 255 ?_
       refine ou 8 396 511 ?_
       refine ou 9 397 1023 ?_
       refine ou 10 398 2047 ?_
       refine ou 11 399 4095 ?_
       refine ou 12 400 8191 ?_
       refine ou 13 401 16383 ?_
       refine ou 14 402 32767 ?_
       refine ou 15 403 65535 ?_
       refine ou 16 404 131071 ?_
       refine pu 17 405 262143 ?_
       refine pu 18 406 524287 ?_
       refine ou 19 407 1048575 ?_
       refine ou 20 408 2097151 ?_
       refine ou 21 409 4194303 ?_
       refine ou 22 410 8388607 ?_
       refine ou 23 411 16777215 ?_
       refine ou 24 412 33554431 ?_
       refine ou 25 413 67108863 ?_
       refine ou 26 414 134217727 ?_
       refine ou 27 415 268435455 ?_
       refine pu 28 416 536870911 ?_
       refine pu 29 6 1073741823 ?_
       refine done_ (by kernel_rfl) ?_
       clear hHeld
       have y0 := Su1_3.out.1
       have y1 := Su1_3.out.2.1
       have y2 := Su1_3.out.2.2.1
       have z0 := Su1_3.out.2.2.2.1
       have z1 := Su1_3.out.2.2.2.2.1
       have z2 := Su1_3.out.2.2.2.2.2
       have HB1 := Aside0.mk (below_step HI.out.2.2.2.1 Hu1_3.out)
       go_wp2
       go_ret
       exact ⟨tells_no (fun h => by have := HSS.out.2 (HP.out.1 h).2; simp at this), HB1.out⟩
      | true =>
       refine pu 6 394 127 ?_
       refine pu 7 395 255 ?_
       refine pu 8 396 511 ?_
       refine pu 9 397 1023 ?_
       refine ta 10 398 2047 ?_
       refine pu 11 399 4095 ?_
       refine pu 12 400 8191 ?_
       refine pu 13 401 16383 ?_
       refine ta 14 402 32767 ?_
       refine pu 15 403 65535 ?_
       refine one_ (i := 16) (N := some 404) (ba 30 131071) rfl rfl (by kernel_rfl) (by decide) (fun K hK => ?_)
       refine goes_ Tryz.func35 (by kernel_rfl) rfl #[.iface q1 p1, .iface q1' p1', .slice A i i] (by rfl) rfl rfl (by (try simp only [List.map_toArray, List.map_cons, List.map_nil]); first | done | rfl) ?_
       refine (HT.out.2.2.2.2.1 _ _ dr dr' _ _ u1_3 ok ok' A i HX.out.2.2.1 HX.out.2.2.2 (HX.out.1.below (Hu1_3.out)) (HX.out.2.1.below (Hu1_3.out)) HT.out.2.2.1 (HI.out.2.2.1.below (Hu1_3.out))).mono ?_
       rintro e u1_4 ⟨⟨r, rfl, hr⟩, hb⟩
       have Hu1_4 := Aside0.mk (below_step Hu1_3.out hb)
       have Su1_4 := Aside0.mk (show u1_4.cell? ⟨g, 0, none⟩ = some (.iface q1 p1) ∧ u1_4.cell? ⟨g, 1, none⟩ = some (.iface q2 p2) ∧ u1_4.cell? ⟨g, 2, none⟩ = some (.bool true) ∧ u1_4.cell? ⟨g', 0, none⟩ = some (.iface q1' p1') ∧ u1_4.cell? ⟨g', 1, none⟩ = some (.iface q2' p2') ∧ u1_4.cell? ⟨g', 2, none⟩ = some (.bool true) from ⟨pw_cell_below hb Su1_3.out.1, pw_cell_below hb Su1_3.out.2.1, pw_cell_below hb Su1_3.out.2.2.1, pw_cell_below hb Su1_3.out.2.2.2.1, pw_cell_below hb Su1_3.out.2.2.2.2.1, pw_cell_below hb Su1_3.out.2.2.2.2.2⟩)
       have HRR := Aside0.mk hr
       clear hr
       clear hb
       refine ⟨_, rfl, ?_⟩
       refine hK.out _ _ Su1_4.out (fun hHeld => ?_)
       clear hK K
       refine no 404 ?_
       cases r with
       | false =>
        refine pu 17 405 262143 ?_
        refine pu 18 406 524287 ?_
        refine ou 19 407 1048575 ?_
        refine ou 20 408 2097151 ?_
        refine ou 21 409 4194303 ?_
        refine ou 22 410 8388607 ?_
        refine ou 23 411 16777215 ?_
        refine ou 24 412 33554431 ?_
        refine ou 25 413 67108863 ?_
        refine ou 26 414 134217727 ?_
        refine ou 27 415 268435455 ?_
        refine pu 28 416 536870911 ?_
        refine pu 29 6 1073741823 ?_
        refine done_ (by kernel_rfl) ?_
        clear hHeld
        have y0 := Su1_4.out.1
        have y1 := Su1_4.out.2.1
        have y2 := Su1_4.out.2.2.1
        have z0 := Su1_4.out.2.2.2.1
        have z1 := Su1_4.out.2.2.2.2.1
        have z2 := Su1_4.out.2.2.2.2.2
        have HB1 := Aside0.mk (below_step HI.out.2.2.2.1 Hu1_4.out)
        go_wp2
        go_ret
        exact ⟨tells_no (fun h => by have := HRR.out.2 (HP.out.1 h).1; simp at this), HB1.out⟩
       | true =>
        refine pu 17 405 262143 ?_
        refine pu 18 406 524287 ?_
        refine pu 19 407 1048575 ?_
        refine pu 20 408 2097151 ?_
        refine pu 21 409 4194303 ?_
        refine ta 22 410 8388607 ?_
        refine pu 23 411 16777215 ?_
        refine pu 24 412 33554431 ?_
        refine pu 25 413 67108863 ?_
        refine ta 26 414 134217727 ?_
        refine pu 27 415 268435455 ?_
        refine pu 28 416 536870911 ?_
        refine pu 29 6 1073741823 ?_
        refine done_ (by kernel_rfl) ?_
        clear hHeld
        have y0 := Su1_4.out.1
        have y1 := Su1_4.out.2.1
        have y2 := Su1_4.out.2.2.1
        have z0 := Su1_4.out.2.2.2.1
        have z1 := Su1_4.out.2.2.2.2.1
        have z2 := Su1_4.out.2.2.2.2.2
        have HB1 := Aside0.mk (below_step HI.out.2.2.2.1 Hu1_4.out)
        go_wp2
        go_ret
        exact ⟨tells_yes (HP.out.2 ⟨HRR.out.1 (by first | rfl | trivial), HSS.out.1 (by first | rfl | trivial)⟩), HB1.out⟩
    ·
     as_aux_lemma =>
      rw [h]
      have h' : tyN d' = 180 := HTY.out.symm.trans h
      obtain ⟨T1, d1, rfl, hs⟩ := TDs.list_of (show TDs (TD n) T d from HT.out.1) h (by decide)
      obtain ⟨T2, d2, rfl, hs'⟩ := TDs.list_of (show TDs (TD n) T' d' from HT.out.2.1) h' (by decide)
      have hI := HI.out.1
      have hI' := HI.out.2.1
      simp only [DTIn, DFIn, ptrAt] at hI hI'
      obtain ⟨_, g, cs, e, hk, hg, x, rfl, hx⟩ := hI
      obtain ⟨_, g', cs', e', hk', hg', x', rfl, hx'⟩ := hI'
      obtain rfl : a = ⟨g, 0, none⟩ := by injection e with _ e1; injection e1 with e2; injection e2
      obtain rfl : a' = ⟨g', 0, none⟩ := by injection e' with _ e1; injection e1 with e2; injection e2
      obtain ⟨q, a_, rfl⟩ := hx.form
      obtain ⟨p, hp⟩ : ∃ p, p = Value.pointer (some a_) := ⟨_, rfl⟩
      rw [← hp] at hx hg
      clear hp
      obtain ⟨q', a'_, rfl⟩ := hx'.form
      obtain ⟨p', hp'⟩ : ∃ p, p = Value.pointer (some a'_) := ⟨_, rfl⟩
      rw [← hp'] at hx' hg'
      clear hp'
      have HP := Aside0.mk (show P ↔ d1 = d2 from by rw [HPP.out]; simp)
      have HX := Aside0.mk (And.intro hx (And.intro hx' (And.intro hs hs')))
      obtain ⟨y0, y1, y2, y3, y4⟩ := cb5 hg
      obtain ⟨z0, z1, z2, z3, z4⟩ := cb5 hg'
      clear e e' hx hx' hs hs' hk hk' hg hg' h h'
      have hn154 := (asn_154 180 (.pointer (some ⟨g, 0, none⟩)) (by decide)).o
      have hn158 := (asn_158 180 (.pointer (some ⟨g, 0, none⟩)) (by decide)).o
      have hn161 := (asn_161 180 (.pointer (some ⟨g, 0, none⟩)) (by decide)).o
      have hn165 := (asn_165 180 (.pointer (some ⟨g, 0, none⟩)) (by decide)).o
      have hnu : ∀ W, (Instr.typeAssert (.iface 180 (.pointer (some ⟨g, 0, none⟩))) 56 169 true).run Tryz.prog W = .ok (.tuple #[.nilIface, .bool false]) W := asn_un 180 _ (by decide) (by decide) (by decide)
      have hn122 := (asn_122 180 (.pointer (some ⟨g, 0, none⟩)) (by decide)).o
      have hn177 := (asn_177 180 (.pointer (some ⟨g, 0, none⟩)) (by decide)).o
      have hy : ∀ W, (Instr.typeAssert (.iface 180 (.pointer (some ⟨g, 0, none⟩))) 56 180 true).run Tryz.prog W = .ok (.tuple #[.pointer (some ⟨g, 0, none⟩), .bool true]) W := asy_180 _
      have hy' : ∀ W, (Instr.typeAssert (.iface 180 (.pointer (some ⟨g', 0, none⟩))) 56 180 false).run Tryz.prog W = .ok (.pointer (some ⟨g', 0, none⟩)) W := aso_180 _
      go_upto_region 101 with fail
      refine start_ (n := 11) (S := fun w' => w'.cell? ⟨g, 0, none⟩ = some (.string nmItem) ∧ w'.cell? ⟨g, 1, none⟩ = some (.iface q p) ∧ w'.cell? ⟨g, 2, none⟩ = some (.bool true) ∧ w'.cell? ⟨g, 3, none⟩ = some (.slice none 0 0) ∧ w'.cell? ⟨g, 4, none⟩ = some (.slice none 0 0) ∧ w'.cell? ⟨g', 0, none⟩ = some (.string nmItem) ∧ w'.cell? ⟨g', 1, none⟩ = some (.iface q' p') ∧ w'.cell? ⟨g', 2, none⟩ = some (.bool true) ∧ w'.cell? ⟨g', 3, none⟩ = some (.slice none 0 0) ∧ w'.cell? ⟨g', 4, none⟩ = some (.slice none 0 0)) (ds := []) (ba 11 0) (by kernel_rfl) rfl rfl ⟨y0, y1, y2, y3, y4, z0, z1, z2, z3, z4⟩ (fun hHeld => ?_)
      generalize hw_ : wr.drew = u1_0 at hHeld ⊢
      have Hu1_0 := Aside0.mk (show Below wr.heap.size wr u1_0 from by rw [← hw_]; exact b3_ (Below.refl _ _))
      clear hw_
      clear y0 y1 y2 y3 y4 z0 z1 z2 z3 z4
      have Su1_0 := Aside0.mk hHeld
      refine pu 0 420 1 ?_
      refine pu 1 421 3 ?_
      refine pu 2 422 7 ?_
      refine ta 3 423 15 ?_
      refine pu 4 424 31 ?_
      refine pu 5 425 63 ?_
      refine pu 6 426 127 ?_
      refine pu 7 427 255 ?_
      refine ta 8 428 511 ?_
      refine one_ (i := 9) (N := some 429) (ba 11 1023) rfl rfl (by kernel_rfl) (by decide) (fun K hK => ?_)
      refine goes_ Tryz.func30 (by kernel_rfl) rfl #[.agg #[.string nmItem, .iface q p, .bool true, .slice none 0 0, .slice none 0 0], .agg #[.string nmItem, .iface q' p', .bool true, .slice none 0 0, .slice none 0 0]] (by rfl) rfl rfl (by (try simp only [List.map_toArray, List.map_cons, List.map_nil]); first | done | rfl) ?_
      refine (HT.out.2.2.2.2.2 nmItem nmItem true true _ _ d1 d2 _ _ u1_0 ok ok' HX.out.2.2.1 HX.out.2.2.2 (HX.out.1.below Hu1_0.out) (HX.out.2.1.below Hu1_0.out) HT.out.2.2.1).mono ?_
      rintro e u1_1 ⟨⟨r, rfl, hr⟩, hb⟩
      have Hu1_1 := Aside0.mk (below_step Hu1_0.out hb)
      have Su1_1 := Aside0.mk (show u1_1.cell? ⟨g, 0, none⟩ = some (.string nmItem) ∧ u1_1.cell? ⟨g, 1, none⟩ = some (.iface q p) ∧ u1_1.cell? ⟨g, 2, none⟩ = some (.bool true) ∧ u1_1.cell? ⟨g, 3, none⟩ = some (.slice none 0 0) ∧ u1_1.cell? ⟨g, 4, none⟩ = some (.slice none 0 0) ∧ u1_1.cell? ⟨g', 0, none⟩ = some (.string nmItem) ∧ u1_1.cell? ⟨g', 1, none⟩ = some (.iface q' p') ∧ u1_1.cell? ⟨g', 2, none⟩ = some (.bool true) ∧ u1_1.cell? ⟨g', 3, none⟩ = some (.slice none 0 0) ∧ u1_1.cell? ⟨g', 4, none⟩ = some (.slice none 0 0) from ⟨pw_cell_below hb Su1_0.out.1, pw_cell_below hb Su1_0.out.2.1, pw_cell_below hb Su1_0.out.2.2.1, pw_cell_below hb Su1_0.out.2.2.2.1, pw_cell_below hb Su1_0.out.2.2.2.2.1, pw_cell_below hb Su1_0.out.2.2.2.2.2.1, pw_cell_below hb Su1_0.out.2.2.2.2.2.2.1, pw_cell_below hb Su1_0.out.2.2.2.2.2.2.2.1, pw_cell_below hb Su1_0.out.2.2.2.2.2.2.2.2.1, pw_cell_below hb Su1_0.out.2.2.2.2.2.2.2.2.2⟩)
      have HRR := Aside0.mk hr
      clear hr
      clear hb
      refine ⟨_, rfl, ?_⟩
      refine hK.out _ _ Su1_1.out (fun hHeld => ?_)
      clear hK K
      refine no 429 ?_
      refine pu 10 6 2047 ?_
      refine done_ (by kernel_rfl) ?_
      clear hHeld
      have y0 := Su1_1.out.1
      have y1 := Su1_1.out.2.1
      have y2 := Su1_1.out.2.2.1
      have y3 := Su1_1.out.2.2.2.1
      have y4 := Su1_1.out.2.2.2.2.1
      have z0 := Su1_1.out.2.2.2.2.2.1
      have z1 := Su1_1.out.2.2.2.2.2.2.1
      have z2 := Su1_1.out.2.2.2.2.2.2.2.1
      have z3 := Su1_1.out.2.2.2.2.2.2.2.2.1
      have z4 := Su1_1.out.2.2.2.2.2.2.2.2.2
      have HB1 := Aside0.mk (below_step HI.out.2.2.2.1 Hu1_1.out)
      go_wp2
      go_ret
      exact ⟨⟨r, rfl, by rw [HP.out]; exact ⟨fun h => (HRR.out.1 h).2.2, fun h => HRR.out.2 ⟨by first | rfl | trivial, by first | rfl | trivial, h⟩⟩⟩, HB1.out⟩
end Go.Proofs.YteebgnhhjlgnjaaGreatDoor.V
