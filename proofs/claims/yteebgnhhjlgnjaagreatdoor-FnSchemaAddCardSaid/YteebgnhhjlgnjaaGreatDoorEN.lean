/- spec.usualEntries, and spec.Usual at every level. -/
import Derived.Test.YteebgnhhjlgnjaaGreatDoorPV
import Derived.Test.YteebgnhhjlgnjaaGreatDoorUS
namespace Go.Proofs.YteebgnhhjlgnjaaGreatDoor.V
open Go.RowKit Go.Proofs.YteebgnhhjlgnjaaGreatDoorW.PrintWords Go.Proofs.YteebgnhhjlgnjaaGreatDoorW.PrintLast Go.Proofs.YteebgnhhjlgnjaaGreatDoorW.PrintMore
set_option maxHeartbeats 40000000
set_option maxRecDepth 100000
set_option linter.unusedVariables false
set_option linter.unusedSimpArgs false
abbrev En26 (B0_10 B0_11 B0_12 B1_10 B1_11 B1_12 : Option Addr) (d0_10 d0_11 d0_12 d1_10 d1_11 d1_12 : Nat) (f g : S30) (ad0 : Addr) (n0 : ByteArray) (b0 : Bool) (l0 : Nat) (n1 : ByteArray) (b1 : Bool) (l1 : Nat) (w : World) : Prop := w.cell? ad0 = some (.string n0) ∧ w.cell? ⟨ad0.block, ad0.off + 1, none⟩ = some (.bool b0) ∧ w.cell? ⟨ad0.block, ad0.off + 2, none⟩ = some (.int .i64 f.f2.f0) ∧ w.cell? ⟨ad0.block, ad0.off + 3, none⟩ = some (.int .i64 f.f2.f1) ∧ w.cell? ⟨ad0.block, ad0.off + 4, none⟩ = some (.bool f.f2.f2) ∧ w.cell? ⟨ad0.block, ad0.off + 5, none⟩ = some (.int .i64 f.f2.f3) ∧ w.cell? ⟨ad0.block, ad0.off + 6, none⟩ = some (.int .i64 f.f2.f4) ∧ w.cell? ⟨ad0.block, ad0.off + 7, none⟩ = some (.int .i64 f.f2.f5) ∧ w.cell? ⟨ad0.block, ad0.off + 8, none⟩ = some (.string f.f2.f6) ∧ w.cell? ⟨ad0.block, ad0.off + 9, none⟩ = some (.bool f.f2.f7) ∧ w.cell? ⟨ad0.block, ad0.off + 10, none⟩ = some (.slice B0_10 f.f2.f8.length d0_10) ∧ w.cell? ⟨ad0.block, ad0.off + 11, none⟩ = some (.slice B0_11 f.f2.f9.length d0_11) ∧ w.cell? ⟨ad0.block, ad0.off + 12, none⟩ = some (.slice B0_12 l0 d0_12) ∧ w.cell? ⟨ad0.block, ad0.off + 13, none⟩ = some (.string n1) ∧ w.cell? ⟨ad0.block, ad0.off + 14, none⟩ = some (.bool b1) ∧ w.cell? ⟨ad0.block, ad0.off + 15, none⟩ = some (.int .i64 g.f2.f0) ∧ w.cell? ⟨ad0.block, ad0.off + 16, none⟩ = some (.int .i64 g.f2.f1) ∧ w.cell? ⟨ad0.block, ad0.off + 17, none⟩ = some (.bool g.f2.f2) ∧ w.cell? ⟨ad0.block, ad0.off + 18, none⟩ = some (.int .i64 g.f2.f3) ∧ w.cell? ⟨ad0.block, ad0.off + 19, none⟩ = some (.int .i64 g.f2.f4) ∧ w.cell? ⟨ad0.block, ad0.off + 20, none⟩ = some (.int .i64 g.f2.f5) ∧ w.cell? ⟨ad0.block, ad0.off + 21, none⟩ = some (.string g.f2.f6) ∧ w.cell? ⟨ad0.block, ad0.off + 22, none⟩ = some (.bool g.f2.f7) ∧ w.cell? ⟨ad0.block, ad0.off + 23, none⟩ = some (.slice B1_10 g.f2.f8.length d1_10) ∧ w.cell? ⟨ad0.block, ad0.off + 24, none⟩ = some (.slice B1_11 g.f2.f9.length d1_11) ∧ w.cell? ⟨ad0.block, ad0.off + 25, none⟩ = some (.slice B1_12 l1 d1_12)
theorem En26.below {B0_10 B0_11 B0_12 B1_10 B1_11 B1_12 : Option Addr} {d0_10 d0_11 d0_12 d1_10 d1_11 d1_12 : Nat} {f g : S30} {ad0 : Addr} {n0 : ByteArray} {b0 : Bool} {l0 : Nat} {n1 : ByteArray} {b1 : Bool} {l1 : Nat} {w w' : World} (h : En26 B0_10 B0_11 B0_12 B1_10 B1_11 B1_12 d0_10 d0_11 d0_12 d1_10 d1_11 d1_12 f g ad0 n0 b0 l0 n1 b1 l1 w) (hb : Below w.heap.size w w') : En26 B0_10 B0_11 B0_12 B1_10 B1_11 B1_12 d0_10 d0_11 d0_12 d1_10 d1_11 d1_12 f g ad0 n0 b0 l0 n1 b1 l1 w' := by
 obtain ⟨x0, x1, x2, x3, x4, x5, x6, x7, x8, x9, x10, x11, x12, x13, x14, x15, x16, x17, x18, x19, x20, x21, x22, x23, x24, x25⟩ := h
 exact ⟨pw_cell_below hb x0, pw_cell_below hb x1, pw_cell_below hb x2, pw_cell_below hb x3, pw_cell_below hb x4, pw_cell_below hb x5, pw_cell_below hb x6, pw_cell_below hb x7, pw_cell_below hb x8, pw_cell_below hb x9, pw_cell_below hb x10, pw_cell_below hb x11, pw_cell_below hb x12, pw_cell_below hb x13, pw_cell_below hb x14, pw_cell_below hb x15, pw_cell_below hb x16, pw_cell_below hb x17, pw_cell_below hb x18, pw_cell_below hb x19, pw_cell_below hb x20, pw_cell_below hb x21, pw_cell_below hb x22, pw_cell_below hb x23, pw_cell_below hb x24, pw_cell_below hb x25⟩
def en_T : Bool × List (List Nat × List Nat) := (true, [([], []), ([0], [0]), ([1], [1]), ([2], [2]), ([3], [3]), ([4], [4]), ([5], [5]), ([6, 5], [5, 6]), ([7, 5], [5, 7]), ([8, 5], [5, 8]), ([9, 5], [5, 9]), ([5, 10], [5, 10]), ([11, 5], [11]), ([12], [12]), ([13, 12], [12, 13]), ([14, 12], [12, 14]), ([15, 12], [12, 15]), ([16, 12], [12, 16]), ([12, 17], [12, 17]), ([18, 12], [18]), ([19], [19]), ([20, 19], [19, 20]), ([21, 19], [19, 21]), ([22, 19], [19, 22]), ([19, 23], [19, 23]), ([24, 19], [24]), ([25], [25]), ([26, 25], [25, 26]), ([27, 25], [25, 27]), ([28, 25], [25, 28]), ([29, 25], [25, 29]), ([25], [25]), ([31, 25], [25, 31]), ([32, 25], [25, 32]), ([33, 25], [25, 33]), ([34, 25], [25, 34]), ([30, 35, 25], [25, 30, 35]), ([36, 25], [25, 36]), ([25, 37], [25, 37]), ([38, 25], [38]), ([39], [39]), ([40, 39], [39, 40]), ([41, 39], [39, 41]), ([42, 39], [39, 42]), ([43, 39, 39], [39, 43]), ([39, 44], [39, 44]), ([45, 44], [45]), ([46], [46]), ([47, 46], [46, 47]), ([48, 46], [46, 48]), ([49, 46], [46, 49]), ([50, 46, 46], [46, 50]), ([46, 51], [46, 51]), ([52, 51, 0, 1, 2, 3, 4, 5, 6, 7, 8, 9, 10, 11, 12, 13, 14, 15, 16, 17, 18, 19, 20, 21, 22, 23, 24, 25, 26, 27, 28, 29, 30, 31, 32, 33, 34, 35, 36, 37, 38, 39, 40, 41, 42, 43, 44, 45, 46, 47, 48, 49, 50, 51, 52], [52])])
def en_a (k : Nat) : Array Bool := (List.replicate k true ++ List.replicate (54 - k) false).toArray
def en_B : List Nat := [0, 1, 3, 7, 15, 31, 63, 127, 255, 511, 1023, 2047, 4095, 8191, 16383, 32767, 65535, 131071, 262143, 524287, 1048575, 2097151, 4194303, 8388607, 16777215, 33554431, 67108863, 134217727, 268435455, 536870911, 1073741823, 67108863, 2214592511, 6509559807, 15099494399, 32279363583, 68719476735, 137438953471, 274877906943, 549755813887, 1099511627775, 2199023255551, 4398046511103, 8796093022207, 17592186044415, 35184372088831, 70368744177663, 140737488355327, 281474976710655, 562949953421311, 1125899906842623, 2251799813685247, 4503599627370495, 9007199254740991]
theorem en_tab : rtab .any (opsOf Tryz.f61 2) = en_T := by kernel_rfl
theorem en_bits : waitsOk en_T.2 en_B = true := by kernel_rfl
theorem entries61 (n : Nat) (hU : UC n) : EC (n + 1) := by
 intro T w A8 A9 c8 c9 hT hR hS hL g9
 have h0 : 0 < T.f9.length := by omega
 have h1 : 1 < T.f9.length := by omega
 have HL2 := Aside0.mk hL
 have HC := Aside0.mk (And.intro hT (And.intro hR hS))
 have HRt := Aside0.mk (show ∀ f ∈ T.f9, RightP n f.f2 from hR.2.2)
 have HU := Aside0.mk hU
 have q0' : (0 < T.f9.length) = True := eq_true h0
 have q1' : (1 < T.f9.length) = True := eq_true h1
 have q1'' : ((1 : Int) < (T.f9.length : Int)) = True := eq_true (by omega)
 clear hT hR hS hL hU
 go_enter Tryz.func61, Tryz.ntmps61
 go_upto_region 1 with fail
 refine wp_at ?_
 intro wr hwr
 have k0 : wr.heap[w.heap.size]? = some (.cells #[.int .i64 T.f0, .int .i64 T.f1, .bool T.f2, .int .i64 T.f3, .int .i64 T.f4, .int .i64 T.f5, .string T.f6, .bool T.f7, .slice A8 T.f8.length c8, .slice A9 T.f9.length c9] 28 (0, 0)) := by rw [hwr]; exact blk_new _ _
 have b0 : Below w.heap.size w wr := by rw [hwr]; exact b1_ (Below.refl _ _) _
 clear hwr
 have HW := Aside0.mk (And.intro k0 b0)
 clear k0 b0
 obtain ⟨y0, y1, y2, y3, y4, y5, y6, y7, y8, y9⟩ := cb10 HW.out.1
 obtain ⟨ad0, cs0, eA, hK0, hcell0⟩ := at30 (Kd.C_below g9 HW.out.2) 0 h0
 subst eA
 obtain ⟨B0_10, d0_10, B0_11, d0_11, B0_12, d0_12, hcs0, _, _, m9, n9, m10, n10⟩ := k30_open hK0
 have x0_0 : wr.cell? ad0 = some (.string T.f9[0].f0) := by have h := hcell0 0 _ (by rw [hcs0]; rfl); rwa [show 0 * 13 + 0 = 0 from rfl, Addr.add_zero'] at h
 have x0_1 : wr.cell? ⟨ad0.block, ad0.off + 1, none⟩ = some (.bool T.f9[0].f1) := by have h := hcell0 1 _ (by rw [hcs0]; rfl); rwa [show 0 * 13 + 1 = 1 from rfl, Addr.add, if_neg (by decide)] at h
 have x0_2 : wr.cell? ⟨ad0.block, ad0.off + 2, none⟩ = some (.int .i64 T.f9[0].f2.f0) := by have h := hcell0 2 _ (by rw [hcs0]; rfl); rwa [show 0 * 13 + 2 = 2 from rfl, Addr.add, if_neg (by decide)] at h
 have x0_3 : wr.cell? ⟨ad0.block, ad0.off + 3, none⟩ = some (.int .i64 T.f9[0].f2.f1) := by have h := hcell0 3 _ (by rw [hcs0]; rfl); rwa [show 0 * 13 + 3 = 3 from rfl, Addr.add, if_neg (by decide)] at h
 have x0_4 : wr.cell? ⟨ad0.block, ad0.off + 4, none⟩ = some (.bool T.f9[0].f2.f2) := by have h := hcell0 4 _ (by rw [hcs0]; rfl); rwa [show 0 * 13 + 4 = 4 from rfl, Addr.add, if_neg (by decide)] at h
 have x0_5 : wr.cell? ⟨ad0.block, ad0.off + 5, none⟩ = some (.int .i64 T.f9[0].f2.f3) := by have h := hcell0 5 _ (by rw [hcs0]; rfl); rwa [show 0 * 13 + 5 = 5 from rfl, Addr.add, if_neg (by decide)] at h
 have x0_6 : wr.cell? ⟨ad0.block, ad0.off + 6, none⟩ = some (.int .i64 T.f9[0].f2.f4) := by have h := hcell0 6 _ (by rw [hcs0]; rfl); rwa [show 0 * 13 + 6 = 6 from rfl, Addr.add, if_neg (by decide)] at h
 have x0_7 : wr.cell? ⟨ad0.block, ad0.off + 7, none⟩ = some (.int .i64 T.f9[0].f2.f5) := by have h := hcell0 7 _ (by rw [hcs0]; rfl); rwa [show 0 * 13 + 7 = 7 from rfl, Addr.add, if_neg (by decide)] at h
 have x0_8 : wr.cell? ⟨ad0.block, ad0.off + 8, none⟩ = some (.string T.f9[0].f2.f6) := by have h := hcell0 8 _ (by rw [hcs0]; rfl); rwa [show 0 * 13 + 8 = 8 from rfl, Addr.add, if_neg (by decide)] at h
 have x0_9 : wr.cell? ⟨ad0.block, ad0.off + 9, none⟩ = some (.bool T.f9[0].f2.f7) := by have h := hcell0 9 _ (by rw [hcs0]; rfl); rwa [show 0 * 13 + 9 = 9 from rfl, Addr.add, if_neg (by decide)] at h
 have x0_10 : wr.cell? ⟨ad0.block, ad0.off + 10, none⟩ = some (.slice B0_10 T.f9[0].f2.f8.length d0_10) := by have h := hcell0 10 _ (by rw [hcs0]; rfl); rwa [show 0 * 13 + 10 = 10 from rfl, Addr.add, if_neg (by decide)] at h
 have x0_11 : wr.cell? ⟨ad0.block, ad0.off + 11, none⟩ = some (.slice B0_11 T.f9[0].f2.f9.length d0_11) := by have h := hcell0 11 _ (by rw [hcs0]; rfl); rwa [show 0 * 13 + 11 = 11 from rfl, Addr.add, if_neg (by decide)] at h
 have x0_12 : wr.cell? ⟨ad0.block, ad0.off + 12, none⟩ = some (.slice B0_12 T.f9[0].f3.length d0_12) := by have h := hcell0 12 _ (by rw [hcs0]; rfl); rwa [show 0 * 13 + 12 = 12 from rfl, Addr.add, if_neg (by decide)] at h
 have E0 := Aside0.mk (And.intro n9 (n10.2.1))
 clear m9 n9 m10 n10 hcs0 hcell0 hK0
 obtain ⟨ad', cs1, eA, hK1, hcell1⟩ := at30 (Kd.C_below g9 HW.out.2) 1 h1
 cases eA
 obtain ⟨B1_10, d1_10, B1_11, d1_11, B1_12, d1_12, hcs1, _, _, m9, n9, m10, n10⟩ := k30_open hK1
 have x1_0 : wr.cell? ⟨ad0.block, ad0.off + 13, none⟩ = some (.string T.f9[1].f0) := by have h := hcell1 0 _ (by rw [hcs1]; rfl); rwa [show 1 * 13 + 0 = 13 from rfl, Addr.add, if_neg (by decide)] at h
 have x1_1 : wr.cell? ⟨ad0.block, ad0.off + 14, none⟩ = some (.bool T.f9[1].f1) := by have h := hcell1 1 _ (by rw [hcs1]; rfl); rwa [show 1 * 13 + 1 = 14 from rfl, Addr.add, if_neg (by decide)] at h
 have x1_2 : wr.cell? ⟨ad0.block, ad0.off + 15, none⟩ = some (.int .i64 T.f9[1].f2.f0) := by have h := hcell1 2 _ (by rw [hcs1]; rfl); rwa [show 1 * 13 + 2 = 15 from rfl, Addr.add, if_neg (by decide)] at h
 have x1_3 : wr.cell? ⟨ad0.block, ad0.off + 16, none⟩ = some (.int .i64 T.f9[1].f2.f1) := by have h := hcell1 3 _ (by rw [hcs1]; rfl); rwa [show 1 * 13 + 3 = 16 from rfl, Addr.add, if_neg (by decide)] at h
 have x1_4 : wr.cell? ⟨ad0.block, ad0.off + 17, none⟩ = some (.bool T.f9[1].f2.f2) := by have h := hcell1 4 _ (by rw [hcs1]; rfl); rwa [show 1 * 13 + 4 = 17 from rfl, Addr.add, if_neg (by decide)] at h
 have x1_5 : wr.cell? ⟨ad0.block, ad0.off + 18, none⟩ = some (.int .i64 T.f9[1].f2.f3) := by have h := hcell1 5 _ (by rw [hcs1]; rfl); rwa [show 1 * 13 + 5 = 18 from rfl, Addr.add, if_neg (by decide)] at h
 have x1_6 : wr.cell? ⟨ad0.block, ad0.off + 19, none⟩ = some (.int .i64 T.f9[1].f2.f4) := by have h := hcell1 6 _ (by rw [hcs1]; rfl); rwa [show 1 * 13 + 6 = 19 from rfl, Addr.add, if_neg (by decide)] at h
 have x1_7 : wr.cell? ⟨ad0.block, ad0.off + 20, none⟩ = some (.int .i64 T.f9[1].f2.f5) := by have h := hcell1 7 _ (by rw [hcs1]; rfl); rwa [show 1 * 13 + 7 = 20 from rfl, Addr.add, if_neg (by decide)] at h
 have x1_8 : wr.cell? ⟨ad0.block, ad0.off + 21, none⟩ = some (.string T.f9[1].f2.f6) := by have h := hcell1 8 _ (by rw [hcs1]; rfl); rwa [show 1 * 13 + 8 = 21 from rfl, Addr.add, if_neg (by decide)] at h
 have x1_9 : wr.cell? ⟨ad0.block, ad0.off + 22, none⟩ = some (.bool T.f9[1].f2.f7) := by have h := hcell1 9 _ (by rw [hcs1]; rfl); rwa [show 1 * 13 + 9 = 22 from rfl, Addr.add, if_neg (by decide)] at h
 have x1_10 : wr.cell? ⟨ad0.block, ad0.off + 23, none⟩ = some (.slice B1_10 T.f9[1].f2.f8.length d1_10) := by have h := hcell1 10 _ (by rw [hcs1]; rfl); rwa [show 1 * 13 + 10 = 23 from rfl, Addr.add, if_neg (by decide)] at h
 have x1_11 : wr.cell? ⟨ad0.block, ad0.off + 24, none⟩ = some (.slice B1_11 T.f9[1].f2.f9.length d1_11) := by have h := hcell1 11 _ (by rw [hcs1]; rfl); rwa [show 1 * 13 + 11 = 24 from rfl, Addr.add, if_neg (by decide)] at h
 have x1_12 : wr.cell? ⟨ad0.block, ad0.off + 25, none⟩ = some (.slice B1_12 T.f9[1].f3.length d1_12) := by have h := hcell1 12 _ (by rw [hcs1]; rfl); rwa [show 1 * 13 + 12 = 25 from rfl, Addr.add, if_neg (by decide)] at h
 have E1 := Aside0.mk (And.intro n9 (n10.2.1))
 clear m9 n9 m10 n10 hcs1 hcell1 hK1
 clear g9
 by_cases p1 : T.f9[0].f0 = nmKey
 rotate_left
 ·have qb : (T.f9[0].f0.toList == nmKey.toList) = false := by rw [beq_eq_false_iff_ne]; exact fun e => p1 (toList_inj e)
  have qb2 : (T.f9[0].f0.toList == [107, 101, 121]) = false := by rw [← show nmKey.toList = [107, 101, 121] from by kernel_rfl]; exact qb
  have qn : (T.f9[0].f0 = ⟨#[107, 101, 121]⟩) = False := eq_false p1
  clear p1
  as_aux_lemma =>
   go_upto_region 2 with fail
   refine start_ (n := 54) (S := fun w' => En26 B0_10 B0_11 B0_12 B1_10 B1_11 B1_12 d0_10 d0_11 d0_12 d1_10 d1_11 d1_12 T.f9[0] T.f9[1] ad0 (T.f9[0].f0) (T.f9[0].f1) (T.f9[0].f3.length) (T.f9[1].f0) (T.f9[1].f1) (T.f9[1].f3.length) w') (ds := []) (en_a 0) (by kernel_rfl) rfl rfl ⟨x0_0, x0_1, x0_2, x0_3, x0_4, x0_5, x0_6, x0_7, x0_8, x0_9, x0_10, x0_11, x0_12, x1_0, x1_1, x1_2, x1_3, x1_4, x1_5, x1_6, x1_7, x1_8, x1_9, x1_10, x1_11, x1_12⟩ (fun hHeld => ?_)
   refine with_tabW en_tab en_bits (fun HT_ HW_ => ?_)
   generalize hw2 : wr.drew = w2 at hHeld ⊢
   have B2 := Aside0.mk (show Below w.heap.size w w2 ∧ Below wr.heap.size wr w2 by rw [← hw2]; exact ⟨b3_ HW.out.2, b3_ (Below.refl _ _)⟩)
   clear hw2
   clear x0_0 x0_1 x0_2 x0_3 x0_4 x0_5 x0_6 x0_7 x0_8 x0_9 x0_10 x0_11 x0_12 x1_0 x1_1 x1_2 x1_3 x1_4 x1_5 x1_6 x1_7 x1_8 x1_9 x1_10 x1_11 x1_12 y0 y1 y2 y3 y4 y5 y6 y7 y8 y9
   have hS := Aside0.mk hHeld
   refine pv 0 6 (en_a 1) (any_of HT_.out (by kernel_rfl)) ?_
   refine pv 1 7 (en_a 2) (any_of HT_.out (by kernel_rfl)) ?_
   refine pv 2 8 (en_a 3) (any_of HT_.out (by kernel_rfl)) ?_
   refine tv 3 9 (en_a 4) (take_ofW HT_.out HW_.out (by kernel_rfl)) ?_
   refine pv 4 10 (en_a 5) (any_of HT_.out (by kernel_rfl)) ?_
   refine pv 5 11 (en_a 6) (any_of HT_.out (by kernel_rfl)) ?_
   refine ov 6 12 (en_a 7) (any_of HT_.out (by kernel_rfl)) ?_
   refine ov 7 13 (en_a 8) (any_of HT_.out (by kernel_rfl)) ?_
   refine ov 8 14 (en_a 9) (any_of HT_.out (by kernel_rfl)) ?_
   refine ov 9 15 (en_a 10) (any_of HT_.out (by kernel_rfl)) ?_
   refine ov 10 16 (en_a 11) (any_of HT_.out (by kernel_rfl)) ?_
   refine pv 11 17 (en_a 12) (any_of HT_.out (by kernel_rfl)) ?_
   refine pv 12 18 (en_a 13) (any_of HT_.out (by kernel_rfl)) ?_
   refine ov 13 19 (en_a 14) (any_of HT_.out (by kernel_rfl)) ?_
   refine ov 14 20 (en_a 15) (any_of HT_.out (by kernel_rfl)) ?_
   refine ov 15 21 (en_a 16) (any_of HT_.out (by kernel_rfl)) ?_
   refine ov 16 22 (en_a 17) (any_of HT_.out (by kernel_rfl)) ?_
   refine ov 17 23 (en_a 18) (any_of HT_.out (by kernel_rfl)) ?_
   refine pv 18 24 (en_a 19) (any_of HT_.out (by kernel_rfl)) ?_
   refine pv 19 25 (en_a 20) (any_of HT_.out (by kernel_rfl)) ?_
   refine ov 20 26 (en_a 21) (any_of HT_.out (by kernel_rfl)) ?_
   refine ov 21 27 (en_a 22) (any_of HT_.out (by kernel_rfl)) ?_
   refine ov 22 28 (en_a 23) (any_of HT_.out (by kernel_rfl)) ?_
   refine ov 23 29 (en_a 24) (any_of HT_.out (by kernel_rfl)) ?_
   refine pv 24 30 (en_a 25) (any_of HT_.out (by kernel_rfl)) ?_
   refine pv 25 31 (en_a 26) (any_of HT_.out (by kernel_rfl)) ?_
   refine ov 26 32 (en_a 27) (any_of HT_.out (by kernel_rfl)) ?_
   refine ov 27 33 (en_a 28) (any_of HT_.out (by kernel_rfl)) ?_
   refine ov 28 34 (en_a 29) (any_of HT_.out (by kernel_rfl)) ?_
   refine ov 29 35 (en_a 30) (any_of HT_.out (by kernel_rfl)) ?_
   refine ov 30 36 (en_a 31) (any_of HT_.out (by kernel_rfl)) ?_
   refine ov 31 37 (en_a 32) (any_of HT_.out (by kernel_rfl)) ?_
   refine ov 32 38 (en_a 33) (any_of HT_.out (by kernel_rfl)) ?_
   refine ov 33 39 (en_a 34) (any_of HT_.out (by kernel_rfl)) ?_
   refine ov 34 40 (en_a 35) (any_of HT_.out (by kernel_rfl)) ?_
   refine ov 35 41 (en_a 36) (any_of HT_.out (by kernel_rfl)) ?_
   refine ov 36 42 (en_a 37) (any_of HT_.out (by kernel_rfl)) ?_
   refine ov 37 43 (en_a 38) (any_of HT_.out (by kernel_rfl)) ?_
   refine pv 38 44 (en_a 39) (any_of HT_.out (by kernel_rfl)) ?_
   refine pv 39 45 (en_a 40) (any_of HT_.out (by kernel_rfl)) ?_
   refine ov 40 46 (en_a 41) (any_of HT_.out (by kernel_rfl)) ?_
   refine ov 41 47 (en_a 42) (any_of HT_.out (by kernel_rfl)) ?_
   refine ov 42 48 (en_a 43) (any_of HT_.out (by kernel_rfl)) ?_
   refine ov 43 49 (en_a 44) (any_of HT_.out (by kernel_rfl)) ?_
   refine ov 44 50 (en_a 45) (any_of HT_.out (by kernel_rfl)) ?_
   refine pv 45 51 (en_a 46) (any_of HT_.out (by kernel_rfl)) ?_
   refine pv 46 52 (en_a 47) (any_of HT_.out (by kernel_rfl)) ?_
   refine ov 47 53 (en_a 48) (any_of HT_.out (by kernel_rfl)) ?_
   refine ov 48 54 (en_a 49) (any_of HT_.out (by kernel_rfl)) ?_
   refine ov 49 55 (en_a 50) (any_of HT_.out (by kernel_rfl)) ?_
   refine ov 50 56 (en_a 51) (any_of HT_.out (by kernel_rfl)) ?_
   refine ov 51 57 (en_a 52) (any_of HT_.out (by kernel_rfl)) ?_
   refine pv 52 58 (en_a 53) (any_of HT_.out (by kernel_rfl)) ?_
   refine pv 53 2 (en_a 54) (any_of HT_.out (by kernel_rfl)) ?_
   refine done_ (done_of HT_.out (by kernel_rfl)) ?_
   go_wp2
   go_ret
   exact ⟨⟨_, rfl, fun e => (by first | (cases e; done) | (simp at e))⟩, B2.out.1⟩
 rw [show T.f9[0].f0 = ⟨#[107, 101, 121]⟩ from p1] at x0_0
 have P1 := Aside0.mk p1
 clear p1
 by_cases p2 : T.f9[1].f0 = nmValue
 rotate_left
 ·have qb : (T.f9[1].f0.toList == nmValue.toList) = false := by rw [beq_eq_false_iff_ne]; exact fun e => p2 (toList_inj e)
  have qb2 : (T.f9[1].f0.toList == [118, 97, 108, 117, 101]) = false := by rw [← show nmValue.toList = [118, 97, 108, 117, 101] from by kernel_rfl]; exact qb
  have qn : (T.f9[1].f0 = ⟨#[118, 97, 108, 117, 101]⟩) = False := eq_false p2
  clear p2
  as_aux_lemma =>
   go_upto_region 2 with fail
   refine start_ (n := 54) (S := fun w' => En26 B0_10 B0_11 B0_12 B1_10 B1_11 B1_12 d0_10 d0_11 d0_12 d1_10 d1_11 d1_12 T.f9[0] T.f9[1] ad0 (⟨#[107, 101, 121]⟩) (T.f9[0].f1) (T.f9[0].f3.length) (T.f9[1].f0) (T.f9[1].f1) (T.f9[1].f3.length) w') (ds := []) (en_a 0) (by kernel_rfl) rfl rfl ⟨x0_0, x0_1, x0_2, x0_3, x0_4, x0_5, x0_6, x0_7, x0_8, x0_9, x0_10, x0_11, x0_12, x1_0, x1_1, x1_2, x1_3, x1_4, x1_5, x1_6, x1_7, x1_8, x1_9, x1_10, x1_11, x1_12⟩ (fun hHeld => ?_)
   refine with_tabW en_tab en_bits (fun HT_ HW_ => ?_)
   generalize hw2 : wr.drew = w2 at hHeld ⊢
   have B2 := Aside0.mk (show Below w.heap.size w w2 ∧ Below wr.heap.size wr w2 by rw [← hw2]; exact ⟨b3_ HW.out.2, b3_ (Below.refl _ _)⟩)
   clear hw2
   clear x0_0 x0_1 x0_2 x0_3 x0_4 x0_5 x0_6 x0_7 x0_8 x0_9 x0_10 x0_11 x0_12 x1_0 x1_1 x1_2 x1_3 x1_4 x1_5 x1_6 x1_7 x1_8 x1_9 x1_10 x1_11 x1_12 y0 y1 y2 y3 y4 y5 y6 y7 y8 y9
   have hS := Aside0.mk hHeld
   refine pv 0 6 (en_a 1) (any_of HT_.out (by kernel_rfl)) ?_
   refine pv 1 7 (en_a 2) (any_of HT_.out (by kernel_rfl)) ?_
   refine pv 2 8 (en_a 3) (any_of HT_.out (by kernel_rfl)) ?_
   refine tv 3 9 (en_a 4) (take_ofW HT_.out HW_.out (by kernel_rfl)) ?_
   refine pv 4 10 (en_a 5) (any_of HT_.out (by kernel_rfl)) ?_
   refine pv 5 11 (en_a 6) (any_of HT_.out (by kernel_rfl)) ?_
   refine pv 6 12 (en_a 7) (any_of HT_.out (by kernel_rfl)) ?_
   refine pv 7 13 (en_a 8) (any_of HT_.out (by kernel_rfl)) ?_
   refine pv 8 14 (en_a 9) (any_of HT_.out (by kernel_rfl)) ?_
   refine tv 9 15 (en_a 10) (take_ofW HT_.out HW_.out (by kernel_rfl)) ?_
   refine pv 10 16 (en_a 11) (any_of HT_.out (by kernel_rfl)) ?_
   refine pv 11 17 (en_a 12) (any_of HT_.out (by kernel_rfl)) ?_
   refine pv 12 18 (en_a 13) (any_of HT_.out (by kernel_rfl)) ?_
   refine ov 13 19 (en_a 14) (any_of HT_.out (by kernel_rfl)) ?_
   refine ov 14 20 (en_a 15) (any_of HT_.out (by kernel_rfl)) ?_
   refine ov 15 21 (en_a 16) (any_of HT_.out (by kernel_rfl)) ?_
   refine ov 16 22 (en_a 17) (any_of HT_.out (by kernel_rfl)) ?_
   refine ov 17 23 (en_a 18) (any_of HT_.out (by kernel_rfl)) ?_
   refine pv 18 24 (en_a 19) (any_of HT_.out (by kernel_rfl)) ?_
   refine pv 19 25 (en_a 20) (any_of HT_.out (by kernel_rfl)) ?_
   refine ov 20 26 (en_a 21) (any_of HT_.out (by kernel_rfl)) ?_
   refine ov 21 27 (en_a 22) (any_of HT_.out (by kernel_rfl)) ?_
   refine ov 22 28 (en_a 23) (any_of HT_.out (by kernel_rfl)) ?_
   refine ov 23 29 (en_a 24) (any_of HT_.out (by kernel_rfl)) ?_
   refine pv 24 30 (en_a 25) (any_of HT_.out (by kernel_rfl)) ?_
   refine pv 25 31 (en_a 26) (any_of HT_.out (by kernel_rfl)) ?_
   refine ov 26 32 (en_a 27) (any_of HT_.out (by kernel_rfl)) ?_
   refine ov 27 33 (en_a 28) (any_of HT_.out (by kernel_rfl)) ?_
   refine ov 28 34 (en_a 29) (any_of HT_.out (by kernel_rfl)) ?_
   refine ov 29 35 (en_a 30) (any_of HT_.out (by kernel_rfl)) ?_
   refine ov 30 36 (en_a 31) (any_of HT_.out (by kernel_rfl)) ?_
   refine ov 31 37 (en_a 32) (any_of HT_.out (by kernel_rfl)) ?_
   refine ov 32 38 (en_a 33) (any_of HT_.out (by kernel_rfl)) ?_
   refine ov 33 39 (en_a 34) (any_of HT_.out (by kernel_rfl)) ?_
   refine ov 34 40 (en_a 35) (any_of HT_.out (by kernel_rfl)) ?_
   refine ov 35 41 (en_a 36) (any_of HT_.out (by kernel_rfl)) ?_
   refine ov 36 42 (en_a 37) (any_of HT_.out (by kernel_rfl)) ?_
   refine ov 37 43 (en_a 38) (any_of HT_.out (by kernel_rfl)) ?_
   refine pv 38 44 (en_a 39) (any_of HT_.out (by kernel_rfl)) ?_
   refine pv 39 45 (en_a 40) (any_of HT_.out (by kernel_rfl)) ?_
   refine ov 40 46 (en_a 41) (any_of HT_.out (by kernel_rfl)) ?_
   refine ov 41 47 (en_a 42) (any_of HT_.out (by kernel_rfl)) ?_
   refine ov 42 48 (en_a 43) (any_of HT_.out (by kernel_rfl)) ?_
   refine ov 43 49 (en_a 44) (any_of HT_.out (by kernel_rfl)) ?_
   refine ov 44 50 (en_a 45) (any_of HT_.out (by kernel_rfl)) ?_
   refine pv 45 51 (en_a 46) (any_of HT_.out (by kernel_rfl)) ?_
   refine pv 46 52 (en_a 47) (any_of HT_.out (by kernel_rfl)) ?_
   refine ov 47 53 (en_a 48) (any_of HT_.out (by kernel_rfl)) ?_
   refine ov 48 54 (en_a 49) (any_of HT_.out (by kernel_rfl)) ?_
   refine ov 49 55 (en_a 50) (any_of HT_.out (by kernel_rfl)) ?_
   refine ov 50 56 (en_a 51) (any_of HT_.out (by kernel_rfl)) ?_
   refine ov 51 57 (en_a 52) (any_of HT_.out (by kernel_rfl)) ?_
   refine pv 52 58 (en_a 53) (any_of HT_.out (by kernel_rfl)) ?_
   refine pv 53 2 (en_a 54) (any_of HT_.out (by kernel_rfl)) ?_
   refine done_ (done_of HT_.out (by kernel_rfl)) ?_
   go_wp2
   go_ret
   exact ⟨⟨_, rfl, fun e => (by first | (cases e; done) | (simp at e))⟩, B2.out.1⟩
 rw [show T.f9[1].f0 = ⟨#[118, 97, 108, 117, 101]⟩ from p2] at x1_0
 have P2 := Aside0.mk p2
 clear p2
 cases p3 : T.f9[0].f1 <;> rw [p3] at x0_1
 rotate_left
 ·clear p3
  as_aux_lemma =>
   go_upto_region 2 with fail
   refine start_ (n := 54) (S := fun w' => En26 B0_10 B0_11 B0_12 B1_10 B1_11 B1_12 d0_10 d0_11 d0_12 d1_10 d1_11 d1_12 T.f9[0] T.f9[1] ad0 (⟨#[107, 101, 121]⟩) true (T.f9[0].f3.length) (⟨#[118, 97, 108, 117, 101]⟩) (T.f9[1].f1) (T.f9[1].f3.length) w') (ds := []) (en_a 0) (by kernel_rfl) rfl rfl ⟨x0_0, x0_1, x0_2, x0_3, x0_4, x0_5, x0_6, x0_7, x0_8, x0_9, x0_10, x0_11, x0_12, x1_0, x1_1, x1_2, x1_3, x1_4, x1_5, x1_6, x1_7, x1_8, x1_9, x1_10, x1_11, x1_12⟩ (fun hHeld => ?_)
   refine with_tabW en_tab en_bits (fun HT_ HW_ => ?_)
   generalize hw2 : wr.drew = w2 at hHeld ⊢
   have B2 := Aside0.mk (show Below w.heap.size w w2 ∧ Below wr.heap.size wr w2 by rw [← hw2]; exact ⟨b3_ HW.out.2, b3_ (Below.refl _ _)⟩)
   clear hw2
   clear x0_0 x0_1 x0_2 x0_3 x0_4 x0_5 x0_6 x0_7 x0_8 x0_9 x0_10 x0_11 x0_12 x1_0 x1_1 x1_2 x1_3 x1_4 x1_5 x1_6 x1_7 x1_8 x1_9 x1_10 x1_11 x1_12 y0 y1 y2 y3 y4 y5 y6 y7 y8 y9
   have hS := Aside0.mk hHeld
   refine pv 0 6 (en_a 1) (any_of HT_.out (by kernel_rfl)) ?_
   refine pv 1 7 (en_a 2) (any_of HT_.out (by kernel_rfl)) ?_
   refine pv 2 8 (en_a 3) (any_of HT_.out (by kernel_rfl)) ?_
   refine tv 3 9 (en_a 4) (take_ofW HT_.out HW_.out (by kernel_rfl)) ?_
   refine pv 4 10 (en_a 5) (any_of HT_.out (by kernel_rfl)) ?_
   refine pv 5 11 (en_a 6) (any_of HT_.out (by kernel_rfl)) ?_
   refine pv 6 12 (en_a 7) (any_of HT_.out (by kernel_rfl)) ?_
   refine pv 7 13 (en_a 8) (any_of HT_.out (by kernel_rfl)) ?_
   refine pv 8 14 (en_a 9) (any_of HT_.out (by kernel_rfl)) ?_
   refine tv 9 15 (en_a 10) (take_ofW HT_.out HW_.out (by kernel_rfl)) ?_
   refine pv 10 16 (en_a 11) (any_of HT_.out (by kernel_rfl)) ?_
   refine pv 11 17 (en_a 12) (any_of HT_.out (by kernel_rfl)) ?_
   refine pv 12 18 (en_a 13) (any_of HT_.out (by kernel_rfl)) ?_
   refine pv 13 19 (en_a 14) (any_of HT_.out (by kernel_rfl)) ?_
   refine pv 14 20 (en_a 15) (any_of HT_.out (by kernel_rfl)) ?_
   refine pv 15 21 (en_a 16) (any_of HT_.out (by kernel_rfl)) ?_
   refine tv 16 22 (en_a 17) (take_ofW HT_.out HW_.out (by kernel_rfl)) ?_
   refine pv 17 23 (en_a 18) (any_of HT_.out (by kernel_rfl)) ?_
   refine pv 18 24 (en_a 19) (any_of HT_.out (by kernel_rfl)) ?_
   refine pv 19 25 (en_a 20) (any_of HT_.out (by kernel_rfl)) ?_
   refine ov 20 26 (en_a 21) (any_of HT_.out (by kernel_rfl)) ?_
   refine ov 21 27 (en_a 22) (any_of HT_.out (by kernel_rfl)) ?_
   refine ov 22 28 (en_a 23) (any_of HT_.out (by kernel_rfl)) ?_
   refine ov 23 29 (en_a 24) (any_of HT_.out (by kernel_rfl)) ?_
   refine pv 24 30 (en_a 25) (any_of HT_.out (by kernel_rfl)) ?_
   refine pv 25 31 (en_a 26) (any_of HT_.out (by kernel_rfl)) ?_
   refine ov 26 32 (en_a 27) (any_of HT_.out (by kernel_rfl)) ?_
   refine ov 27 33 (en_a 28) (any_of HT_.out (by kernel_rfl)) ?_
   refine ov 28 34 (en_a 29) (any_of HT_.out (by kernel_rfl)) ?_
   refine ov 29 35 (en_a 30) (any_of HT_.out (by kernel_rfl)) ?_
   refine ov 30 36 (en_a 31) (any_of HT_.out (by kernel_rfl)) ?_
   refine ov 31 37 (en_a 32) (any_of HT_.out (by kernel_rfl)) ?_
   refine ov 32 38 (en_a 33) (any_of HT_.out (by kernel_rfl)) ?_
   refine ov 33 39 (en_a 34) (any_of HT_.out (by kernel_rfl)) ?_
   refine ov 34 40 (en_a 35) (any_of HT_.out (by kernel_rfl)) ?_
   refine ov 35 41 (en_a 36) (any_of HT_.out (by kernel_rfl)) ?_
   refine ov 36 42 (en_a 37) (any_of HT_.out (by kernel_rfl)) ?_
   refine ov 37 43 (en_a 38) (any_of HT_.out (by kernel_rfl)) ?_
   refine pv 38 44 (en_a 39) (any_of HT_.out (by kernel_rfl)) ?_
   refine pv 39 45 (en_a 40) (any_of HT_.out (by kernel_rfl)) ?_
   refine ov 40 46 (en_a 41) (any_of HT_.out (by kernel_rfl)) ?_
   refine ov 41 47 (en_a 42) (any_of HT_.out (by kernel_rfl)) ?_
   refine ov 42 48 (en_a 43) (any_of HT_.out (by kernel_rfl)) ?_
   refine ov 43 49 (en_a 44) (any_of HT_.out (by kernel_rfl)) ?_
   refine ov 44 50 (en_a 45) (any_of HT_.out (by kernel_rfl)) ?_
   refine pv 45 51 (en_a 46) (any_of HT_.out (by kernel_rfl)) ?_
   refine pv 46 52 (en_a 47) (any_of HT_.out (by kernel_rfl)) ?_
   refine ov 47 53 (en_a 48) (any_of HT_.out (by kernel_rfl)) ?_
   refine ov 48 54 (en_a 49) (any_of HT_.out (by kernel_rfl)) ?_
   refine ov 49 55 (en_a 50) (any_of HT_.out (by kernel_rfl)) ?_
   refine ov 50 56 (en_a 51) (any_of HT_.out (by kernel_rfl)) ?_
   refine ov 51 57 (en_a 52) (any_of HT_.out (by kernel_rfl)) ?_
   refine pv 52 58 (en_a 53) (any_of HT_.out (by kernel_rfl)) ?_
   refine pv 53 2 (en_a 54) (any_of HT_.out (by kernel_rfl)) ?_
   refine done_ (done_of HT_.out (by kernel_rfl)) ?_
   go_wp2
   go_ret
   exact ⟨⟨_, rfl, fun e => (by first | (cases e; done) | (simp at e))⟩, B2.out.1⟩
 have P3 := Aside0.mk p3
 clear p3
 cases p4 : T.f9[1].f1 <;> rw [p4] at x1_1
 ·clear p4
  as_aux_lemma =>
   go_upto_region 2 with fail
   refine start_ (n := 54) (S := fun w' => En26 B0_10 B0_11 B0_12 B1_10 B1_11 B1_12 d0_10 d0_11 d0_12 d1_10 d1_11 d1_12 T.f9[0] T.f9[1] ad0 (⟨#[107, 101, 121]⟩) false (T.f9[0].f3.length) (⟨#[118, 97, 108, 117, 101]⟩) false (T.f9[1].f3.length) w') (ds := []) (en_a 0) (by kernel_rfl) rfl rfl ⟨x0_0, x0_1, x0_2, x0_3, x0_4, x0_5, x0_6, x0_7, x0_8, x0_9, x0_10, x0_11, x0_12, x1_0, x1_1, x1_2, x1_3, x1_4, x1_5, x1_6, x1_7, x1_8, x1_9, x1_10, x1_11, x1_12⟩ (fun hHeld => ?_)
   refine with_tabW en_tab en_bits (fun HT_ HW_ => ?_)
   generalize hw2 : wr.drew = w2 at hHeld ⊢
   have B2 := Aside0.mk (show Below w.heap.size w w2 ∧ Below wr.heap.size wr w2 by rw [← hw2]; exact ⟨b3_ HW.out.2, b3_ (Below.refl _ _)⟩)
   clear hw2
   clear x0_0 x0_1 x0_2 x0_3 x0_4 x0_5 x0_6 x0_7 x0_8 x0_9 x0_10 x0_11 x0_12 x1_0 x1_1 x1_2 x1_3 x1_4 x1_5 x1_6 x1_7 x1_8 x1_9 x1_10 x1_11 x1_12 y0 y1 y2 y3 y4 y5 y6 y7 y8 y9
   have hS := Aside0.mk hHeld
   refine pv 0 6 (en_a 1) (any_of HT_.out (by kernel_rfl)) ?_
   refine pv 1 7 (en_a 2) (any_of HT_.out (by kernel_rfl)) ?_
   refine pv 2 8 (en_a 3) (any_of HT_.out (by kernel_rfl)) ?_
   refine tv 3 9 (en_a 4) (take_ofW HT_.out HW_.out (by kernel_rfl)) ?_
   refine pv 4 10 (en_a 5) (any_of HT_.out (by kernel_rfl)) ?_
   refine pv 5 11 (en_a 6) (any_of HT_.out (by kernel_rfl)) ?_
   refine pv 6 12 (en_a 7) (any_of HT_.out (by kernel_rfl)) ?_
   refine pv 7 13 (en_a 8) (any_of HT_.out (by kernel_rfl)) ?_
   refine pv 8 14 (en_a 9) (any_of HT_.out (by kernel_rfl)) ?_
   refine tv 9 15 (en_a 10) (take_ofW HT_.out HW_.out (by kernel_rfl)) ?_
   refine pv 10 16 (en_a 11) (any_of HT_.out (by kernel_rfl)) ?_
   refine pv 11 17 (en_a 12) (any_of HT_.out (by kernel_rfl)) ?_
   refine pv 12 18 (en_a 13) (any_of HT_.out (by kernel_rfl)) ?_
   refine pv 13 19 (en_a 14) (any_of HT_.out (by kernel_rfl)) ?_
   refine pv 14 20 (en_a 15) (any_of HT_.out (by kernel_rfl)) ?_
   refine pv 15 21 (en_a 16) (any_of HT_.out (by kernel_rfl)) ?_
   refine tv 16 22 (en_a 17) (take_ofW HT_.out HW_.out (by kernel_rfl)) ?_
   refine pv 17 23 (en_a 18) (any_of HT_.out (by kernel_rfl)) ?_
   refine pv 18 24 (en_a 19) (any_of HT_.out (by kernel_rfl)) ?_
   refine pv 19 25 (en_a 20) (any_of HT_.out (by kernel_rfl)) ?_
   refine pv 20 26 (en_a 21) (any_of HT_.out (by kernel_rfl)) ?_
   refine pv 21 27 (en_a 22) (any_of HT_.out (by kernel_rfl)) ?_
   refine pv 22 28 (en_a 23) (any_of HT_.out (by kernel_rfl)) ?_
   refine tv 23 29 (en_a 24) (take_ofW HT_.out HW_.out (by kernel_rfl)) ?_
   refine pv 24 30 (en_a 25) (any_of HT_.out (by kernel_rfl)) ?_
   refine pv 25 31 (en_a 26) (any_of HT_.out (by kernel_rfl)) ?_
   refine ov 26 32 (en_a 27) (any_of HT_.out (by kernel_rfl)) ?_
   refine ov 27 33 (en_a 28) (any_of HT_.out (by kernel_rfl)) ?_
   refine ov 28 34 (en_a 29) (any_of HT_.out (by kernel_rfl)) ?_
   refine ov 29 35 (en_a 30) (any_of HT_.out (by kernel_rfl)) ?_
   refine ov 30 36 (en_a 31) (any_of HT_.out (by kernel_rfl)) ?_
   refine ov 31 37 (en_a 32) (any_of HT_.out (by kernel_rfl)) ?_
   refine ov 32 38 (en_a 33) (any_of HT_.out (by kernel_rfl)) ?_
   refine ov 33 39 (en_a 34) (any_of HT_.out (by kernel_rfl)) ?_
   refine ov 34 40 (en_a 35) (any_of HT_.out (by kernel_rfl)) ?_
   refine ov 35 41 (en_a 36) (any_of HT_.out (by kernel_rfl)) ?_
   refine ov 36 42 (en_a 37) (any_of HT_.out (by kernel_rfl)) ?_
   refine ov 37 43 (en_a 38) (any_of HT_.out (by kernel_rfl)) ?_
   refine pv 38 44 (en_a 39) (any_of HT_.out (by kernel_rfl)) ?_
   refine pv 39 45 (en_a 40) (any_of HT_.out (by kernel_rfl)) ?_
   refine ov 40 46 (en_a 41) (any_of HT_.out (by kernel_rfl)) ?_
   refine ov 41 47 (en_a 42) (any_of HT_.out (by kernel_rfl)) ?_
   refine ov 42 48 (en_a 43) (any_of HT_.out (by kernel_rfl)) ?_
   refine ov 43 49 (en_a 44) (any_of HT_.out (by kernel_rfl)) ?_
   refine ov 44 50 (en_a 45) (any_of HT_.out (by kernel_rfl)) ?_
   refine pv 45 51 (en_a 46) (any_of HT_.out (by kernel_rfl)) ?_
   refine pv 46 52 (en_a 47) (any_of HT_.out (by kernel_rfl)) ?_
   refine ov 47 53 (en_a 48) (any_of HT_.out (by kernel_rfl)) ?_
   refine ov 48 54 (en_a 49) (any_of HT_.out (by kernel_rfl)) ?_
   refine ov 49 55 (en_a 50) (any_of HT_.out (by kernel_rfl)) ?_
   refine ov 50 56 (en_a 51) (any_of HT_.out (by kernel_rfl)) ?_
   refine ov 51 57 (en_a 52) (any_of HT_.out (by kernel_rfl)) ?_
   refine pv 52 58 (en_a 53) (any_of HT_.out (by kernel_rfl)) ?_
   refine pv 53 2 (en_a 54) (any_of HT_.out (by kernel_rfl)) ?_
   refine done_ (done_of HT_.out (by kernel_rfl)) ?_
   go_wp2
   go_ret
   exact ⟨⟨_, rfl, fun e => (by first | (cases e; done) | (simp at e))⟩, B2.out.1⟩
 have P4 := Aside0.mk p4
 clear p4
 by_cases p5 : T.f9[0].f3.length = 0 ∧ T.f9[1].f3.length = 0
 rotate_left
 ·have qz : ¬ wrap64 ((T.f9[0].f3.length : Int) + (T.f9[1].f3.length : Int)) = 0 := by
   have e0 := E0.out.2
   have e1 := E1.out.2
   intro h
   unfold wrap64 at h
   omega
  have qz2 : decide (wrap64 ((T.f9[0].f3.length : Int) + (T.f9[1].f3.length : Int)) = 0) = false := decide_eq_false qz
  have qz3 : (wrap64 ((T.f9[0].f3.length : Int) + (T.f9[1].f3.length : Int)) = 0) = False := eq_false qz
  have qz4 : (wrap64 ((T.f9[0].f3.length : Int) + (T.f9[1].f3.length : Int)) == 0) = false := beq_eq_false_iff_ne.mpr qz
  clear p5 qz
  as_aux_lemma =>
   go_upto_region 2 with fail
   refine start_ (n := 54) (S := fun w' => En26 B0_10 B0_11 B0_12 B1_10 B1_11 B1_12 d0_10 d0_11 d0_12 d1_10 d1_11 d1_12 T.f9[0] T.f9[1] ad0 (⟨#[107, 101, 121]⟩) false (T.f9[0].f3.length) (⟨#[118, 97, 108, 117, 101]⟩) true (T.f9[1].f3.length) w') (ds := []) (en_a 0) (by kernel_rfl) rfl rfl ⟨x0_0, x0_1, x0_2, x0_3, x0_4, x0_5, x0_6, x0_7, x0_8, x0_9, x0_10, x0_11, x0_12, x1_0, x1_1, x1_2, x1_3, x1_4, x1_5, x1_6, x1_7, x1_8, x1_9, x1_10, x1_11, x1_12⟩ (fun hHeld => ?_)
   refine with_tabW en_tab en_bits (fun HT_ HW_ => ?_)
   generalize hw2 : wr.drew = w2 at hHeld ⊢
   have B2 := Aside0.mk (show Below w.heap.size w w2 ∧ Below wr.heap.size wr w2 by rw [← hw2]; exact ⟨b3_ HW.out.2, b3_ (Below.refl _ _)⟩)
   clear hw2
   clear x0_0 x0_1 x0_2 x0_3 x0_4 x0_5 x0_6 x0_7 x0_8 x0_9 x0_10 x0_11 x0_12 x1_0 x1_1 x1_2 x1_3 x1_4 x1_5 x1_6 x1_7 x1_8 x1_9 x1_10 x1_11 x1_12 y0 y1 y2 y3 y4 y5 y6 y7 y8 y9
   have hS := Aside0.mk hHeld
   refine pv 0 6 (en_a 1) (any_of HT_.out (by kernel_rfl)) ?_
   refine pv 1 7 (en_a 2) (any_of HT_.out (by kernel_rfl)) ?_
   refine pv 2 8 (en_a 3) (any_of HT_.out (by kernel_rfl)) ?_
   refine tv 3 9 (en_a 4) (take_ofW HT_.out HW_.out (by kernel_rfl)) ?_
   refine pv 4 10 (en_a 5) (any_of HT_.out (by kernel_rfl)) ?_
   refine pv 5 11 (en_a 6) (any_of HT_.out (by kernel_rfl)) ?_
   refine pv 6 12 (en_a 7) (any_of HT_.out (by kernel_rfl)) ?_
   refine pv 7 13 (en_a 8) (any_of HT_.out (by kernel_rfl)) ?_
   refine pv 8 14 (en_a 9) (any_of HT_.out (by kernel_rfl)) ?_
   refine tv 9 15 (en_a 10) (take_ofW HT_.out HW_.out (by kernel_rfl)) ?_
   refine pv 10 16 (en_a 11) (any_of HT_.out (by kernel_rfl)) ?_
   refine pv 11 17 (en_a 12) (any_of HT_.out (by kernel_rfl)) ?_
   refine pv 12 18 (en_a 13) (any_of HT_.out (by kernel_rfl)) ?_
   refine pv 13 19 (en_a 14) (any_of HT_.out (by kernel_rfl)) ?_
   refine pv 14 20 (en_a 15) (any_of HT_.out (by kernel_rfl)) ?_
   refine pv 15 21 (en_a 16) (any_of HT_.out (by kernel_rfl)) ?_
   refine tv 16 22 (en_a 17) (take_ofW HT_.out HW_.out (by kernel_rfl)) ?_
   refine pv 17 23 (en_a 18) (any_of HT_.out (by kernel_rfl)) ?_
   refine pv 18 24 (en_a 19) (any_of HT_.out (by kernel_rfl)) ?_
   refine pv 19 25 (en_a 20) (any_of HT_.out (by kernel_rfl)) ?_
   refine pv 20 26 (en_a 21) (any_of HT_.out (by kernel_rfl)) ?_
   refine pv 21 27 (en_a 22) (any_of HT_.out (by kernel_rfl)) ?_
   refine pv 22 28 (en_a 23) (any_of HT_.out (by kernel_rfl)) ?_
   refine tv 23 29 (en_a 24) (take_ofW HT_.out HW_.out (by kernel_rfl)) ?_
   refine pv 24 30 (en_a 25) (any_of HT_.out (by kernel_rfl)) ?_
   refine pv 25 31 (en_a 26) (any_of HT_.out (by kernel_rfl)) ?_
   refine pv 26 32 (en_a 27) (any_of HT_.out (by kernel_rfl)) ?_
   refine pv 27 33 (en_a 28) (any_of HT_.out (by kernel_rfl)) ?_
   refine pv 28 34 (en_a 29) (any_of HT_.out (by kernel_rfl)) ?_
   refine tv 29 35 (en_a 30) (take_ofW HT_.out HW_.out (by kernel_rfl)) ?_
   refine pv 30 36 (en_a 31) (any_of HT_.out (by kernel_rfl)) ?_
   refine pv 31 37 (en_a 32) (any_of HT_.out (by kernel_rfl)) ?_
   refine pv 32 38 (en_a 33) (any_of HT_.out (by kernel_rfl)) ?_
   refine pv 33 39 (en_a 34) (any_of HT_.out (by kernel_rfl)) ?_
   refine tv 34 40 (en_a 35) (take_ofW HT_.out HW_.out (by kernel_rfl)) ?_
   refine pv 35 41 (en_a 36) (any_of HT_.out (by kernel_rfl)) ?_
   refine pv 36 42 (en_a 37) (any_of HT_.out (by kernel_rfl)) ?_
   refine pv 37 43 (en_a 38) (any_of HT_.out (by kernel_rfl)) ?_
   refine pv 38 44 (en_a 39) (any_of HT_.out (by kernel_rfl)) ?_
   refine pv 39 45 (en_a 40) (any_of HT_.out (by kernel_rfl)) ?_
   refine ov 40 46 (en_a 41) (any_of HT_.out (by kernel_rfl)) ?_
   refine ov 41 47 (en_a 42) (any_of HT_.out (by kernel_rfl)) ?_
   refine ov 42 48 (en_a 43) (any_of HT_.out (by kernel_rfl)) ?_
   refine ov 43 49 (en_a 44) (any_of HT_.out (by kernel_rfl)) ?_
   refine ov 44 50 (en_a 45) (any_of HT_.out (by kernel_rfl)) ?_
   refine pv 45 51 (en_a 46) (any_of HT_.out (by kernel_rfl)) ?_
   refine pv 46 52 (en_a 47) (any_of HT_.out (by kernel_rfl)) ?_
   refine ov 47 53 (en_a 48) (any_of HT_.out (by kernel_rfl)) ?_
   refine ov 48 54 (en_a 49) (any_of HT_.out (by kernel_rfl)) ?_
   refine ov 49 55 (en_a 50) (any_of HT_.out (by kernel_rfl)) ?_
   refine ov 50 56 (en_a 51) (any_of HT_.out (by kernel_rfl)) ?_
   refine ov 51 57 (en_a 52) (any_of HT_.out (by kernel_rfl)) ?_
   refine pv 52 58 (en_a 53) (any_of HT_.out (by kernel_rfl)) ?_
   refine pv 53 2 (en_a 54) (any_of HT_.out (by kernel_rfl)) ?_
   refine done_ (done_of HT_.out (by kernel_rfl)) ?_
   go_wp2
   go_ret
   exact ⟨⟨_, rfl, fun e => (by first | (cases e; done) | (simp at e))⟩, B2.out.1⟩
 have qw0 : (wrap64 (0 : Int) == 0) = true := by rw [w64_id 0 (by omega) (by omega)]; rfl
 obtain ⟨p5, p6⟩ := p5
 rw [p5] at x0_12
 rw [p6] at x1_12
 have PALL := Aside0.mk (show EntB T from by
  have f0 : fld T 0 = T.f9[0] := by unfold fld; rw [List.getD_eq_getElem?_getD, List.getElem?_eq_getElem h0]; rfl
  have f1 : fld T 1 = T.f9[1] := by unfold fld; rw [List.getD_eq_getElem?_getD, List.getElem?_eq_getElem h1]; rfl
  unfold EntB
  rw [f0, f1]
  exact ⟨P1.out, P2.out, P3.out, P4.out, List.eq_nil_of_length_eq_zero p5, List.eq_nil_of_length_eq_zero p6⟩)
 clear p5 p6
 as_aux_lemma =>
  go_upto_region 2 with fail
  refine start_ (n := 54) (S := fun w' => En26 B0_10 B0_11 B0_12 B1_10 B1_11 B1_12 d0_10 d0_11 d0_12 d1_10 d1_11 d1_12 T.f9[0] T.f9[1] ad0 (⟨#[107, 101, 121]⟩) false 0 (⟨#[118, 97, 108, 117, 101]⟩) true 0 w') (ds := []) (en_a 0) (by kernel_rfl) rfl rfl ⟨x0_0, x0_1, x0_2, x0_3, x0_4, x0_5, x0_6, x0_7, x0_8, x0_9, x0_10, x0_11, x0_12, x1_0, x1_1, x1_2, x1_3, x1_4, x1_5, x1_6, x1_7, x1_8, x1_9, x1_10, x1_11, x1_12⟩ (fun hHeld => ?_)
  refine with_tabW en_tab en_bits (fun HT_ HW_ => ?_)
  generalize hw2 : wr.drew = w2 at hHeld ⊢
  have B2 := Aside0.mk (show Below w.heap.size w w2 ∧ Below wr.heap.size wr w2 by rw [← hw2]; exact ⟨b3_ HW.out.2, b3_ (Below.refl _ _)⟩)
  clear hw2
  clear x0_0 x0_1 x0_2 x0_3 x0_4 x0_5 x0_6 x0_7 x0_8 x0_9 x0_10 x0_11 x0_12 x1_0 x1_1 x1_2 x1_3 x1_4 x1_5 x1_6 x1_7 x1_8 x1_9 x1_10 x1_11 x1_12 y0 y1 y2 y3 y4 y5 y6 y7 y8 y9
  have hS := Aside0.mk hHeld
  refine pv 0 6 (en_a 1) (any_of HT_.out (by kernel_rfl)) ?_
  refine pv 1 7 (en_a 2) (any_of HT_.out (by kernel_rfl)) ?_
  refine pv 2 8 (en_a 3) (any_of HT_.out (by kernel_rfl)) ?_
  refine tv 3 9 (en_a 4) (take_ofW HT_.out HW_.out (by kernel_rfl)) ?_
  refine pv 4 10 (en_a 5) (any_of HT_.out (by kernel_rfl)) ?_
  refine pv 5 11 (en_a 6) (any_of HT_.out (by kernel_rfl)) ?_
  refine pv 6 12 (en_a 7) (any_of HT_.out (by kernel_rfl)) ?_
  refine pv 7 13 (en_a 8) (any_of HT_.out (by kernel_rfl)) ?_
  refine pv 8 14 (en_a 9) (any_of HT_.out (by kernel_rfl)) ?_
  refine tv 9 15 (en_a 10) (take_ofW HT_.out HW_.out (by kernel_rfl)) ?_
  refine pv 10 16 (en_a 11) (any_of HT_.out (by kernel_rfl)) ?_
  refine pv 11 17 (en_a 12) (any_of HT_.out (by kernel_rfl)) ?_
  refine pv 12 18 (en_a 13) (any_of HT_.out (by kernel_rfl)) ?_
  refine pv 13 19 (en_a 14) (any_of HT_.out (by kernel_rfl)) ?_
  refine pv 14 20 (en_a 15) (any_of HT_.out (by kernel_rfl)) ?_
  refine pv 15 21 (en_a 16) (any_of HT_.out (by kernel_rfl)) ?_
  refine tv 16 22 (en_a 17) (take_ofW HT_.out HW_.out (by kernel_rfl)) ?_
  refine pv 17 23 (en_a 18) (any_of HT_.out (by kernel_rfl)) ?_
  refine pv 18 24 (en_a 19) (any_of HT_.out (by kernel_rfl)) ?_
  refine pv 19 25 (en_a 20) (any_of HT_.out (by kernel_rfl)) ?_
  refine pv 20 26 (en_a 21) (any_of HT_.out (by kernel_rfl)) ?_
  refine pv 21 27 (en_a 22) (any_of HT_.out (by kernel_rfl)) ?_
  refine pv 22 28 (en_a 23) (any_of HT_.out (by kernel_rfl)) ?_
  refine tv 23 29 (en_a 24) (take_ofW HT_.out HW_.out (by kernel_rfl)) ?_
  refine pv 24 30 (en_a 25) (any_of HT_.out (by kernel_rfl)) ?_
  refine pv 25 31 (en_a 26) (any_of HT_.out (by kernel_rfl)) ?_
  refine pv 26 32 (en_a 27) (any_of HT_.out (by kernel_rfl)) ?_
  refine pv 27 33 (en_a 28) (any_of HT_.out (by kernel_rfl)) ?_
  refine pv 28 34 (en_a 29) (any_of HT_.out (by kernel_rfl)) ?_
  refine tv 29 35 (en_a 30) (take_ofW HT_.out HW_.out (by kernel_rfl)) ?_
  refine pv 30 36 (en_a 31) (any_of HT_.out (by kernel_rfl)) ?_
  refine pv 31 37 (en_a 32) (any_of HT_.out (by kernel_rfl)) ?_
  refine pv 32 38 (en_a 33) (any_of HT_.out (by kernel_rfl)) ?_
  refine pv 33 39 (en_a 34) (any_of HT_.out (by kernel_rfl)) ?_
  refine tv 34 40 (en_a 35) (take_ofW HT_.out HW_.out (by kernel_rfl)) ?_
  refine pv 35 41 (en_a 36) (any_of HT_.out (by kernel_rfl)) ?_
  refine pv 36 42 (en_a 37) (any_of HT_.out (by kernel_rfl)) ?_
  refine pv 37 43 (en_a 38) (any_of HT_.out (by kernel_rfl)) ?_
  refine pv 38 44 (en_a 39) (any_of HT_.out (by kernel_rfl)) ?_
  refine pv 39 45 (en_a 40) (any_of HT_.out (by kernel_rfl)) ?_
  refine pv 40 46 (en_a 41) (any_of HT_.out (by kernel_rfl)) ?_
  refine pv 41 47 (en_a 42) (any_of HT_.out (by kernel_rfl)) ?_
  refine pv 42 48 (en_a 43) (any_of HT_.out (by kernel_rfl)) ?_
  refine tv 43 49 (en_a 44) (take_ofW HT_.out HW_.out (by kernel_rfl)) ?_
  refine one_ (i := 44) (N := some 50) (en_a 45) rfl rfl (one_of HT_.out (by kernel_rfl)) (by decide) (fun K hK => ?_)
  refine goes_ Tryz.func32 (by kernel_rfl) rfl #[.agg #[.int .i64 T.f9[0].f2.f0, .int .i64 T.f9[0].f2.f1, .bool T.f9[0].f2.f2, .int .i64 T.f9[0].f2.f3, .int .i64 T.f9[0].f2.f4, .int .i64 T.f9[0].f2.f5, .string T.f9[0].f2.f6, .bool T.f9[0].f2.f7, .slice B0_10 T.f9[0].f2.f8.length d0_10, .slice B0_11 T.f9[0].f2.f9.length d0_11]] (by rfl) rfl rfl (by (try simp only [List.map_toArray, List.map_cons, List.map_nil]); first | done | rfl) ?_
  refine (HU.out (T.f9[0]).f2 w2 B0_10 B0_11 d0_10 d0_11 (HC.out.1.step B2.out.1) (HRt.out _ (List.getElem_mem h0)) (HC.out.2.2.sub _ (List.getElem_mem h0)) (Kd.C_below E0.out.1 B2.out.2)).mono ?_
  rintro e w3 ⟨⟨b1, rfl, hb1⟩, hb⟩
  have Hb1 := Aside0.mk hb1
  clear hb1
  have Bb1 := Aside0.mk (And.intro (below_step B2.out.1 hb) (below_step B2.out.2 hb))
  have hSw3 := Aside0.mk (show En26 B0_10 B0_11 B0_12 B1_10 B1_11 B1_12 d0_10 d0_11 d0_12 d1_10 d1_11 d1_12 T.f9[0] T.f9[1] ad0 (⟨#[107, 101, 121]⟩) false 0 (⟨#[118, 97, 108, 117, 101]⟩) true 0 w3 from En26.below hS.out hb)
  clear hb
  refine ⟨_, rfl, ?_⟩
  refine hK.out _ _ hSw3.out (fun hHeld => ?_)
  clear hK K
  refine no 50 ?_
  cases b1 with
  | false =>
   refine pv 45 51 (en_a 46) (any_of HT_.out (by kernel_rfl)) ?_
   refine pv 46 52 (en_a 47) (any_of HT_.out (by kernel_rfl)) ?_
   refine ov 47 53 (en_a 48) (any_of HT_.out (by kernel_rfl)) ?_
   refine ov 48 54 (en_a 49) (any_of HT_.out (by kernel_rfl)) ?_
   refine ov 49 55 (en_a 50) (any_of HT_.out (by kernel_rfl)) ?_
   refine ov 50 56 (en_a 51) (any_of HT_.out (by kernel_rfl)) ?_
   refine ov 51 57 (en_a 52) (any_of HT_.out (by kernel_rfl)) ?_
   refine pv 52 58 (en_a 53) (any_of HT_.out (by kernel_rfl)) ?_
   refine pv 53 2 (en_a 54) (any_of HT_.out (by kernel_rfl)) ?_
   refine done_ (done_of HT_.out (by kernel_rfl)) ?_
   go_wp2
   go_ret
   exact ⟨⟨_, rfl, fun e => (by first | (cases e; done) | (simp at e))⟩, Bb1.out.1⟩
  | true =>
   refine pv 45 51 (en_a 46) (any_of HT_.out (by kernel_rfl)) ?_
   refine pv 46 52 (en_a 47) (any_of HT_.out (by kernel_rfl)) ?_
   refine pv 47 53 (en_a 48) (any_of HT_.out (by kernel_rfl)) ?_
   refine pv 48 54 (en_a 49) (any_of HT_.out (by kernel_rfl)) ?_
   refine pv 49 55 (en_a 50) (any_of HT_.out (by kernel_rfl)) ?_
   refine tv 50 56 (en_a 51) (take_ofW HT_.out HW_.out (by kernel_rfl)) ?_
   refine one_ (i := 51) (N := some 57) (en_a 52) rfl rfl (one_of HT_.out (by kernel_rfl)) (by decide) (fun K hK => ?_)
   refine goes_ Tryz.func32 (by kernel_rfl) rfl #[.agg #[.int .i64 T.f9[1].f2.f0, .int .i64 T.f9[1].f2.f1, .bool T.f9[1].f2.f2, .int .i64 T.f9[1].f2.f3, .int .i64 T.f9[1].f2.f4, .int .i64 T.f9[1].f2.f5, .string T.f9[1].f2.f6, .bool T.f9[1].f2.f7, .slice B1_10 T.f9[1].f2.f8.length d1_10, .slice B1_11 T.f9[1].f2.f9.length d1_11]] (by rfl) rfl rfl (by (try simp only [List.map_toArray, List.map_cons, List.map_nil]); first | done | rfl) ?_
   refine (HU.out (T.f9[1]).f2 w3 B1_10 B1_11 d1_10 d1_11 (HC.out.1.step Bb1.out.1) (HRt.out _ (List.getElem_mem h1)) (HC.out.2.2.sub _ (List.getElem_mem h1)) (Kd.C_below E1.out.1 Bb1.out.2)).mono ?_
   rintro e w4 ⟨⟨b2, rfl, hb2⟩, hb⟩
   have Hb2 := Aside0.mk hb2
   clear hb2
   have Bb2 := Aside0.mk (And.intro (below_step Bb1.out.1 hb) (below_step Bb1.out.2 hb))
   have hSw4 := Aside0.mk (show En26 B0_10 B0_11 B0_12 B1_10 B1_11 B1_12 d0_10 d0_11 d0_12 d1_10 d1_11 d1_12 T.f9[0] T.f9[1] ad0 (⟨#[107, 101, 121]⟩) false 0 (⟨#[118, 97, 108, 117, 101]⟩) true 0 w4 from En26.below hSw3.out hb)
   clear hb
   refine ⟨_, rfl, ?_⟩
   refine hK.out _ _ hSw4.out (fun hHeld => ?_)
   clear hK K
   refine no 57 ?_
   refine pv 52 58 (en_a 53) (any_of HT_.out (by kernel_rfl)) ?_
   refine pv 53 2 (en_a 54) (any_of HT_.out (by kernel_rfl)) ?_
   refine done_ (done_of HT_.out (by kernel_rfl)) ?_
   have KEY := Aside0.mk (show b2 = true → EntU T from fun hb => ⟨PALL.out, fun j hj => by
    have hj2 : j = 0 ∨ j = 1 := by have := HL2.out; omega
    rcases hj2 with rfl | rfl
    ·exact Hb1.out (by first | rfl | trivial)
    ·exact Hb2.out hb⟩)
   cases b2 with
   | false =>
    go_wp2
    go_ret
    first | exact ⟨⟨_, rfl, fun e => (by first | (cases e; done) | (simp at e))⟩, Bb2.out.1⟩ | exact ⟨Or.inl rfl, Bb2.out.1⟩
   | true =>
    go_wp2
    go_ret
    first | exact ⟨⟨_, rfl, fun _ => KEY.out (by first | rfl | trivial)⟩, Bb2.out.1⟩ | exact ⟨Or.inr ⟨rfl, KEY.out (by first | rfl | trivial)⟩, Bb2.out.1⟩
theorem usual_all : ∀ (n : Nat), UC n
 | 0 => fun T w A8 A9 c8 c9 hT hR => hR.elim
 | 1 => usual_head 1 (fun m e => by cases e; exact usual_all 0) (fun m e => by cases e; exact fun T w A8 A9 c8 c9 hT hR => hR.elim)
 | n + 2 => usual_head (n + 2) (fun m e => by cases e; exact usual_all (n + 1)) (fun m e => by cases e; exact entries61 n (usual_all n))
end Go.Proofs.YteebgnhhjlgnjaaGreatDoor.V
