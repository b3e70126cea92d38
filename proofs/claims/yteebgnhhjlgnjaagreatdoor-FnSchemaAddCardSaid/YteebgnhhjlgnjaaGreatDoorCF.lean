/- spec.countFields and spec.FieldsIn. -/
import Derived.Test.YteebgnhhjlgnjaaGreatDoorST
namespace Go.Proofs.YteebgnhhjlgnjaaGreatDoor.V
open Go.RowKit Go.Proofs.YteebgnhhjlgnjaaGreatDoorW.PrintWords Go.Proofs.YteebgnhhjlgnjaaGreatDoorW.PrintLast Go.Proofs.YteebgnhhjlgnjaaGreatDoorW.PrintMore
set_option maxHeartbeats 40000000
set_option maxRecDepth 100000
set_option linter.unusedVariables false
set_option linter.unusedSimpArgs false
theorem alloc_size_ (w : World) (o : Obj) : (w.alloc o).heap.size = w.heap.size + 1 := by first | (simp; done) | (show (w.heap.push _).size = _; simp)
theorem size_f9 (T : S28) (f : S30) (h : f ∈ T.f9) : SizeOf.sizeOf f.f2 < SizeOf.sizeOf T := by
 have h1 := List.sizeOf_lt_of_mem h
 cases T
 cases f
 simp only [S28.mk.sizeOf_spec, S30.mk.sizeOf_spec] at *
 omega
theorem cnt84 : ∀ (n : Nat) (T : S28), SizeOf.sizeOf T ≤ n → ∀ (u w : World) (A8 A9 : Option Addr) (c8 c9 g : Nat) (m : Int), Below u.heap.size u w → u.heap.size ≤ g → w.heap[g]? = some (.cells #[.int .i64 m] 3 (0, 0)) → 0 ≤ m → m ≤ 1001 → Kd.C k30 u A9 T.f9.length T.f9 →
 Calls Tryz.prog 84 #[.agg #[.int .i64 T.f0, .int .i64 T.f1, .bool T.f2, .int .i64 T.f3, .int .i64 T.f4, .int .i64 T.f5, .string T.f6, .bool T.f7, .slice A8 T.f8.length c8, .slice A9 T.f9.length c9], .pointer (some ⟨g, 0, none⟩)] w fun e w' => e = .returned (.tuple #[]) ∧ w.grownBy w' (some g) ∧ ∃ m', 0 ≤ m' ∧ m' ≤ m ∧ w'.heap[g]? = some (.cells #[.int .i64 m'] 3 (0, 0)) := by
 intro n
 induction n with
 | zero => intro T hT; cases T; simp only [S28.mk.sizeOf_spec] at hT; omega
 | succ n ih =>
 intro T hT u w A8 A9 c8 c9 g m hb hg hG hm0 hm1 hC
 have HT := Aside0.mk hT
 have HC := Aside0.mk (And.intro hC (And.intro hg (And.intro hm0 hm1)))
 have HG := Aside0.mk (And.intro hb hG)
 clear hT hC hb hg hG hm0 hm1
 go_enter Tryz.func84, Tryz.ntmps84
 go_wp2
 go_loopg [4] (1001 : Nat) (fun kq v4 wr => ∃ (i : Nat) (mm : Int), v4 = .int .i64 (i : Int) ∧ Aside0 (i + kq = 1001 ∧ 0 ≤ mm ∧ mm ≤ m ∧ (i : Int) + mm ≤ 1001 ∧ w.grownBy wr (some g) ∧ wr.heap[g]? = some (.cells #[.int .i64 mm] 3 (0, 0)) ∧ wr.heap[w.heap.size]? = some (.cells #[.int .i64 T.f0, .int .i64 T.f1, .bool T.f2, .int .i64 T.f3, .int .i64 T.f4, .int .i64 T.f5, .string T.f6, .bool T.f7, .slice A8 T.f8.length c8, .slice A9 T.f9.length c9] 28 (0, 0))))
 case atStart =>
  obtain ⟨hb, hG⟩ := HG.out
  obtain ⟨hC, hg, hm0, hm1⟩ := HC.out
  exact ⟨0, m, rfl, ⟨⟨by omega, hm0, Int.le_refl _, by omega, World.grownBy_alloc w _ _, blk_alloc_ hG, blk_new _ _⟩⟩⟩
 case round =>
  obtain ⟨i, mm, rfl, hA⟩ := hrel
  obtain ⟨h1, h2, h3, h4, h5, h7, h10⟩ := hA.out
  obtain ⟨y0, y1, y2, y3, y4, y5, y6, y7, y8, y9⟩ := cb10 h10
  have xg : wr.cell? ⟨g, 0, none⟩ = some (.int .i64 mm) := (blk_cell h7 0).trans rfl
  have fg := blk_frozen h7 0
  by_cases hi : i < T.f9.length
  ·have hd : decide ((i : Int) < (T.f9.length : Int)) = true := by simpa using hi
   by_cases hm : 0 < mm
   ·have hd2 : decide (0 < mm) = true := by simpa using hm
    have e0 : wrap64 (mm - 1) = mm - 1 := w64_id _ (by omega) (by omega)
    have e1 : IntKind.i64.wrap ((i : Int) + 1) = ((i + 1 : Nat) : Int) := by rw [i64_w, w64_id _ (by omega) (by omega)]; omega
    have E0 := Aside0.mk (And.intro e0 e1)
    clear e0 e1
    have HM := Aside0.mk hm
    clear hm h1 h2 h3 h4 h5 h7 h10
    go_upto_region 5 with fail
    refine wp_at ?_
    intro w1 hw1
    rw [E0.out.1] at hw1
    obtain ⟨h1, h2, h3, h4, h5, h7, h10⟩ := hA.out
    obtain ⟨hC, hg, hm0, hm1⟩ := HC.out
    obtain ⟨hb, hG⟩ := HG.out
    have hne : w.heap.size ≠ g := by have := blk_lt hG; omega
    have k5 : w.grownBy w1 (some g) := by rw [hw1]; exact set_grown h5 _ _
    have k6 : Below u.heap.size u w1 := hb.grown k5 hb.size (fun k e => by cases e; exact hg)
    have k7 : w1.heap[g]? = some (.cells #[.int .i64 (mm - 1)] 3 (0, 0)) := by rw [hw1]; exact blk_put_at h7 rfl
    have k10 : w1.heap[w.heap.size]? = some (.cells #[.int .i64 T.f0, .int .i64 T.f1, .bool T.f2, .int .i64 T.f3, .int .i64 T.f4, .int .i64 T.f5, .string T.f6, .bool T.f7, .slice A8 T.f8.length c8, .slice A9 T.f9.length c9] 28 (0, 0)) := by rw [hw1]; exact blk_other_ hne h10
    clear y0 y1 y2 y3 y4 y5 y6 y7 y8 y9
    obtain ⟨y0, y1, y2, y3, y4, y5, y6, y7, y8, y9⟩ := cb10 k10
    obtain ⟨ad, cs, rfl, hK, hcell0⟩ := at30 hC i hi
    have hcell : ∀ j v, cs[j]? = some v → w1.cell? (ad.add (i * 13 + j)) = some v := fun j v hu => pw_cell_below k6 (hcell0 j v hu)
    obtain ⟨A10, c10, A11, c11, A12, c12, hcs, l10, g10, l11, g11, l12, g12⟩ := k30_open hK
    obtain ⟨x0, x1, x2, x3, x4, x5, x6, x7, x8, x9, x10, x11, x12⟩ := fld13 hcell hcs
    have K1 := Aside0.mk (And.intro k5 (And.intro k6 (And.intro k7 (And.intro k10 (And.intro g11 hne)))))
    clear hC hg hm0 hm1 hb hG hne k5 k6 k7 k10 hcell hcell0 hK h1 h2 h3 h4 h5 h7 h10 hw1 xg fg hcs l10 g10 l11 g11 l12 g12 hd2
    go_wp2_with (go_at_call 84; fail)
    clear x0 x1 x2 x3 x4 x5 x6 x7 x8 x9 x10 x11 x12 y0 y1 y2 y3 y4 y5 y6 y7 y8 y9
    obtain ⟨k5, k6, k7, k10, g11, hne⟩ := K1.out
    obtain ⟨hC, hg, hm0, hm1⟩ := HC.out
    obtain ⟨h1, h2, h3, h4, h5, h7, h10⟩ := hA.out
    have hm := HM.out
    refine (ih T.f9[i].f2 (by have := size_f9 T T.f9[i] (List.getElem_mem hi); have := HT.out; omega) u w1 A10 A11 c10 c11 g (mm - 1) k6 hg k7 (by omega) (by omega) g11).mono ?_
    rintro e w2 ⟨rfl, q1, mm', q2, q3, q4⟩
    have b5 : w.grownBy w2 (some g) := k5.trans q1
    have b10 : w2.heap[w.heap.size]? = some (.cells #[.int .i64 T.f0, .int .i64 T.f1, .bool T.f2, .int .i64 T.f3, .int .i64 T.f4, .int .i64 T.f5, .string T.f6, .bool T.f7, .slice A8 T.f8.length c8, .slice (some ad) T.f9.length c9] 28 (0, 0)) := (q1.block _ (blk_lt k10) (fun e => hne (Option.some.inj e))).trans k10
    have e1 := E0.out.2
    have K2 := Aside0.mk (And.intro b5 (And.intro b10 q4))
    clear k5 k6 k7 k10 g11 hne hC hg hm0 hm1 h1 h2 h3 h4 h5 h7 h10 hm q1 b5 b10 q4
    go_wp2
    obtain ⟨h1, h2, h3, h4, h5, h7, h10⟩ := hA.out
    have hm := HM.out
    go_roundg (1001 - (i + 1))
    case measure => omega
    case rel => exact ⟨i + 1, mm', by first | rfl | (rw [E0.out.2]) | go_num, ⟨⟨by omega, q2, by omega, by omega, K2.out.1, K2.out.2.2, K2.out.2.1⟩⟩⟩
   ·have hd2 : decide (0 < mm) = false := by simpa using hm
    clear h1 h2 h3 h4 h5 h7 h10
    go_wp2
    go_end0
    obtain ⟨h1, h2, h3, h4, h5, h7, h10⟩ := hA.out
    exact ⟨rfl, h5, mm, h2, h3, h7⟩
  ·have hd : decide ((i : Int) < (T.f9.length : Int)) = false := by simpa using hi
   clear h1 h2 h3 h4 h5 h7 h10
   go_wp2
   go_end0
   obtain ⟨h1, h2, h3, h4, h5, h7, h10⟩ := hA.out
   exact ⟨rfl, h5, mm, h2, h3, h7⟩
theorem fields55 (T : S28) (w : World) (A8 A9 : Option Addr) (c8 c9 : Nat) (hC : Kd.C k30 w A9 T.f9.length T.f9) :
 Calls Tryz.prog 55 #[.agg #[.int .i64 T.f0, .int .i64 T.f1, .bool T.f2, .int .i64 T.f3, .int .i64 T.f4, .int .i64 T.f5, .string T.f6, .bool T.f7, .slice A8 T.f8.length c8, .slice A9 T.f9.length c9]] w fun e w' => (∃ m : Int, e = .returned (.int .i64 m)) ∧ Below w.heap.size w w' := by
 have HC := Aside0.mk hC
 clear hC
 go_enter Tryz.func55, Tryz.ntmps55
 go_upto_region 2 with fail
 refine wp_at ?_
 intro w1 hw1
 have k1 : w1.heap[w.heap.size]? = some (.cells #[.int .i64 T.f0, .int .i64 T.f1, .bool T.f2, .int .i64 T.f3, .int .i64 T.f4, .int .i64 T.f5, .string T.f6, .bool T.f7, .slice A8 T.f8.length c8, .slice A9 T.f9.length c9] 28 (0, 0)) := by rw [hw1]; exact blk_alloc_ (blk_new _ _)
 have k2 : w1.heap[w.heap.size + 1]? = some (.cells #[.int .i64 1001] 3 (0, 0)) := by rw [hw1]; exact blk_new_at (alloc_size_ _ _).symm
 have k3 : Below w.heap.size w w1 := by rw [hw1]; exact ((Below.refl _ w).alloc (Nat.le_refl _) _).alloc (by rw [alloc_size_]; omega) _
 have K := Aside0.mk (And.intro k2 k3)
 obtain ⟨y0, y1, y2, y3, y4, y5, y6, y7, y8, y9⟩ := cb10 k1
 clear k1 k2 k3 hw1
 go_wp2_with (go_at_call 84; fail)
 refine (cnt84 _ T (Nat.le_refl _) w w1 A8 A9 c8 c9 (w.heap.size + 1) 1001 K.out.2 (by omega) K.out.1 (by omega) (by omega) HC.out).mono ?_
 rintro e w2 ⟨rfl, q1, m, q2, q3, q4⟩
 have b2 : Below w.heap.size w w2 := K.out.2.grown q1 K.out.2.size (fun k e => by cases e; omega)
 have y0 : w2.cell? ⟨w.heap.size + 1, 0, none⟩ = some (.int .i64 m) := (blk_cell q4 0).trans rfl
 clear q1 q4
 go_wp2
 go_ret
 exact ⟨⟨_, rfl⟩, b2⟩
end Go.Proofs.YteebgnhhjlgnjaaGreatDoor.V
