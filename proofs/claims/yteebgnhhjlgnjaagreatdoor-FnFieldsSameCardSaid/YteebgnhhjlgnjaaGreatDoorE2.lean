/- The small functions that TypeEqual calls. -/
import Derived.Test.YteebgnhhjlgnjaaGreatDoorE0
import Derived.Test.YteebgnhhjlgnjaaGreatDoorMA
import Derived.Test.YteebgnhhjlgnjaaGreatDoorST
import Derived.Test.YteebgnhhjlgnjaaGreatDoorD0
import Derived.Test.YteebgnhhjlgnjaaGreatDoorSL
namespace Go.Proofs.YteebgnhhjlgnjaaGreatDoor.V
open Go.RowKit Go.Proofs.YteebgnhhjlgnjaaGreatDoorW.PrintWords Go.Proofs.YteebgnhhjlgnjaaGreatDoorW.PrintLast Go.Proofs.YteebgnhhjlgnjaaGreatDoorW.PrintMore
set_option maxHeartbeats 40000000
set_option maxRecDepth 100000
set_option linter.unusedVariables false
set_option linter.unusedSimpArgs false
theorem elem65 (g : Nat) (x : Value) (w : World) (h : w.cell? ⟨g, 1, none⟩ = some x) : Calls Tryz.prog 65 #[.pointer (some ⟨g, 0, none⟩)] w fun e w' => e = .returned x ∧ Below w.heap.size w w' := by
 go_enter Tryz.func65, Tryz.ntmps65
 go_wp2
 go_ret
 exact ⟨rfl, bl⟩
theorem elem66 (g : Nat) (x : Value) (w : World) (h : w.cell? ⟨g, 2, none⟩ = some x) : Calls Tryz.prog 66 #[.pointer (some ⟨g, 0, none⟩)] w fun e w' => e = .returned x ∧ Below w.heap.size w w' := by
 go_enter Tryz.func66, Tryz.ntmps66
 go_wp2
 go_ret
 exact ⟨rfl, bl⟩
theorem elem72 (g : Nat) (x : Value) (w : World) (h : w.cell? ⟨g, 1, none⟩ = some x) : Calls Tryz.prog 72 #[.pointer (some ⟨g, 0, none⟩)] w fun e w' => e = .returned x ∧ Below w.heap.size w w' := by
 go_enter Tryz.func72, Tryz.ntmps72
 go_wp2
 go_ret
 exact ⟨rfl, bl⟩
theorem field95_0 (g F m c : Nat) (n : ByteArray) (q : Nat) (p : Value) (b : Bool) (w : World) (hA : w.cell? ⟨g, 0, none⟩ = some (.slice (some ⟨F, 0, none⟩) m c)) (hi : 0 < m) (h0 : w.cell? ⟨F, 0, none⟩ = some (.string n)) (h1 : w.cell? ⟨F, 1, none⟩ = some (.iface q p)) (h2 : w.cell? ⟨F, 2, none⟩ = some (.bool b)) (h3 : w.cell? ⟨F, 3, none⟩ = some (.slice none 0 0)) (h4 : w.cell? ⟨F, 4, none⟩ = some (.slice none 0 0)) :
 Calls Tryz.prog 95 #[.pointer (some ⟨g, 0, none⟩), .int .i64 0] w fun e w' => e = .returned (.agg #[.string n, .iface q p, .bool b, .slice none 0 0, .slice none 0 0]) ∧ Below w.heap.size w w' := by
 have hi2 : ((0 : Int) < (m : Int)) = True := eq_true (by omega)
 have hi3 : (0 < m) = True := eq_true hi
 go_enter Tryz.func95, Tryz.ntmps95
 go_upto_region 1 with fail
 refine wp_at ?_
 intro w1 hw1
 have hb : Below w.heap.size w w1 := by rw [hw1]; exact (Below.refl _ _).alloc (Nat.le_refl _) _
 have hk : w1.heap[w.heap.size]? = some (.cells #[.string ⟨#[]⟩, .nilIface, .bool false, .slice none 0 0, .slice none 0 0] 61 (0, 0)) := by rw [hw1]; exact blk_new _ _
 replace hA := pw_cell_below hb hA
 replace h0 := pw_cell_below hb h0
 replace h1 := pw_cell_below hb h1
 replace h2 := pw_cell_below hb h2
 replace h3 := pw_cell_below hb h3
 replace h4 := pw_cell_below hb h4
 have HB := Aside0.mk (And.intro hb hk)
 obtain ⟨z0, z1, z2, z3, z4⟩ := cb5 hk
 obtain ⟨f0, f1, f2, f3, f4⟩ := fb5 hk
 clear hw1 hb hk
 go_wp2
 have hp := put5_row (m := 0) HB.out.2 (.string n) (.iface q p) (.bool b) (.slice none 0 0) (.slice none 0 0)
 have hq := put5_below (m := 0) (v0 := .string n) (v1 := .iface q p) (v2 := .bool b) (v3 := .slice none 0 0) (v4 := .slice none 0 0) HB.out.1 (Nat.le_refl _)
 refine show bodyPost Tryz.prog Tryz.f95 _ Exit.ret _ (put5 w1 w.heap.size 0 (.string n) (.iface q p) (.bool b) (.slice none 0 0) (.slice none 0 0)) from ?_
 generalize put5 w1 w.heap.size 0 (.string n) (.iface q p) (.bool b) (.slice none 0 0) (.slice none 0 0) = W at hp hq ⊢
 obtain ⟨y0, y1, y2, y3, y4⟩ := cb5 hp
 refine bodyPost_ret (v := .agg #[.string n, .iface q p, .bool b, .slice none 0 0, .slice none 0 0]) (by simp [results, Tryz.results95, go_sem, y0, y1, y2, y3, y4]) rfl ⟨rfl, hq⟩
theorem field95_1 (g F m c : Nat) (n : ByteArray) (q : Nat) (p : Value) (b : Bool) (w : World) (hA : w.cell? ⟨g, 0, none⟩ = some (.slice (some ⟨F, 0, none⟩) m c)) (hi : 1 < m) (h0 : w.cell? ⟨F, 5, none⟩ = some (.string n)) (h1 : w.cell? ⟨F, 6, none⟩ = some (.iface q p)) (h2 : w.cell? ⟨F, 7, none⟩ = some (.bool b)) (h3 : w.cell? ⟨F, 8, none⟩ = some (.slice none 0 0)) (h4 : w.cell? ⟨F, 9, none⟩ = some (.slice none 0 0)) :
 Calls Tryz.prog 95 #[.pointer (some ⟨g, 0, none⟩), .int .i64 1] w fun e w' => e = .returned (.agg #[.string n, .iface q p, .bool b, .slice none 0 0, .slice none 0 0]) ∧ Below w.heap.size w w' := by
 have hi2 : ((1 : Int) < (m : Int)) = True := eq_true (by omega)
 have hi3 : (1 < m) = True := eq_true hi
 go_enter Tryz.func95, Tryz.ntmps95
 go_upto_region 1 with fail
 refine wp_at ?_
 intro w1 hw1
 have hb : Below w.heap.size w w1 := by rw [hw1]; exact (Below.refl _ _).alloc (Nat.le_refl _) _
 have hk : w1.heap[w.heap.size]? = some (.cells #[.string ⟨#[]⟩, .nilIface, .bool false, .slice none 0 0, .slice none 0 0] 61 (0, 0)) := by rw [hw1]; exact blk_new _ _
 replace hA := pw_cell_below hb hA
 replace h0 := pw_cell_below hb h0
 replace h1 := pw_cell_below hb h1
 replace h2 := pw_cell_below hb h2
 replace h3 := pw_cell_below hb h3
 replace h4 := pw_cell_below hb h4
 have HB := Aside0.mk (And.intro hb hk)
 obtain ⟨z0, z1, z2, z3, z4⟩ := cb5 hk
 obtain ⟨f0, f1, f2, f3, f4⟩ := fb5 hk
 clear hw1 hb hk
 go_wp2
 have hp := put5_row (m := 0) HB.out.2 (.string n) (.iface q p) (.bool b) (.slice none 0 0) (.slice none 0 0)
 have hq := put5_below (m := 0) (v0 := .string n) (v1 := .iface q p) (v2 := .bool b) (v3 := .slice none 0 0) (v4 := .slice none 0 0) HB.out.1 (Nat.le_refl _)
 refine show bodyPost Tryz.prog Tryz.f95 _ Exit.ret _ (put5 w1 w.heap.size 0 (.string n) (.iface q p) (.bool b) (.slice none 0 0) (.slice none 0 0)) from ?_
 generalize put5 w1 w.heap.size 0 (.string n) (.iface q p) (.bool b) (.slice none 0 0) (.slice none 0 0) = W at hp hq ⊢
 obtain ⟨y0, y1, y2, y3, y4⟩ := cb5 hp
 refine bodyPost_ret (v := .agg #[.string n, .iface q p, .bool b, .slice none 0 0, .slice none 0 0]) (by simp [results, Tryz.results95, go_sem, y0, y1, y2, y3, y4]) rfl ⟨rfl, hq⟩
theorem mapfield69 (g b sg F c nb : Nat) (v1 : Value) (n0 n1 : ByteArray) (q0 q1 : Nat) (p0 p1 : Value) (b0 b1 : Bool) (w : World) (hg : w.cell? ⟨g, 0, none⟩ = some (.pointer (some ⟨b, 0, none⟩))) (hb : w.cell? ⟨b, 1, none⟩ = some (.iface 165 (.pointer (some ⟨sg, 0, none⟩)))) (hA : w.cell? ⟨sg, 0, none⟩ = some (.slice (some ⟨F, 0, none⟩) 2 c)) (k0 : w.cell? ⟨F, 0, none⟩ = some (.string n0)) (k1 : w.cell? ⟨F, 1, none⟩ = some (.iface q0 p0)) (k2 : w.cell? ⟨F, 2, none⟩ = some (.bool b0)) (k3 : w.cell? ⟨F, 3, none⟩ = some (.slice none 0 0)) (k4 : w.cell? ⟨F, 4, none⟩ = some (.slice none 0 0)) (k5 : w.cell? ⟨F, 5, none⟩ = some (.string n1)) (k6 : w.cell? ⟨F, 6, none⟩ = some (.iface q1 p1)) (k7 : w.cell? ⟨F, 7, none⟩ = some (.bool b1)) (k8 : w.cell? ⟨F, 8, none⟩ = some (.slice none 0 0)) (k9 : w.cell? ⟨F, 9, none⟩ = some (.slice none 0 0)) :
 Calls Tryz.prog 69 #[.pointer (some ⟨g, 0, none⟩)] w fun e w' => e = .returned (.agg #[.string n0, .iface q0 p0, .bool b0, .slice none 0 0, .slice none 0 0]) ∧ Below w.heap.size w w' := by
 have ho : ∀ W, (Instr.typeAssert (.iface 165 (.pointer (some ⟨sg, 0, none⟩))) 56 165 false).run Tryz.prog W = .ok (.pointer (some ⟨sg, 0, none⟩)) W := aso_165 _
 go_enter Tryz.func69, Tryz.ntmps69
 go_upto_region 1 with fail
 refine wp_at ?_
 intro w1 hw1
 have hb1 : Below w.heap.size w w1 := by rw [hw1]; exact (Below.refl _ _).alloc (Nat.le_refl _) _
 have hk : w1.heap[w.heap.size]? = some (.cells #[.string ⟨#[]⟩, .nilIface, .bool false, .slice none 0 0, .slice none 0 0] 61 (0, 0)) := by rw [hw1]; exact blk_new _ _
 replace hg := pw_cell_below hb1 hg
 replace hb := pw_cell_below hb1 hb
 replace hA := pw_cell_below hb1 hA
 replace k0 := pw_cell_below hb1 k0
 replace k1 := pw_cell_below hb1 k1
 replace k2 := pw_cell_below hb1 k2
 replace k3 := pw_cell_below hb1 k3
 replace k4 := pw_cell_below hb1 k4
 replace k5 := pw_cell_below hb1 k5
 replace k6 := pw_cell_below hb1 k6
 replace k7 := pw_cell_below hb1 k7
 replace k8 := pw_cell_below hb1 k8
 replace k9 := pw_cell_below hb1 k9
 have HB := Aside0.mk (And.intro hb1 hk)
 have HA := Aside0.mk (And.intro hA (And.intro k0 (And.intro k1 (And.intro k2 (And.intro k3 k4)))))
 clear hw1 hb1 hk hA k0 k1 k2 k3 k4 k5 k6 k7 k8 k9
 go_wp2_with (go_at_call 65; fail)
 refine (elem65 b _ w1 hb).mono ?_
 rintro e w2 ⟨rfl, hb2⟩
 have HB2 := Aside0.mk (And.intro (below_step HB.out.1 hb2) (blk_below HB.out.2 hb2))
 have HB3 := Aside0.mk hb2
 clear hb2 hb hg
 go_wp2_with (go_at_call 95; fail)
 refine (field95_0 sg F 2 c n0 q0 p0 b0 w2 (pw_cell_below HB3.out HA.out.1) (by decide) (pw_cell_below HB3.out HA.out.2.1) (pw_cell_below HB3.out HA.out.2.2.1) (pw_cell_below HB3.out HA.out.2.2.2.1) (pw_cell_below HB3.out HA.out.2.2.2.2.1) (pw_cell_below HB3.out HA.out.2.2.2.2.2)).mono ?_
 rintro e w3 ⟨rfl, hb3⟩
 have hk3 := blk_below HB2.out.2 hb3
 have HC := Aside0.mk (And.intro (below_step HB2.out.1 hb3) hk3)
 obtain ⟨z0, z1, z2, z3, z4⟩ := cb5 hk3
 obtain ⟨f0, f1, f2, f3, f4⟩ := fb5 hk3
 clear hk3 hb3
 go_wp2
 have hp := put5_row (m := 0) HC.out.2 (.string n0) (.iface q0 p0) (.bool b0) (.slice none 0 0) (.slice none 0 0)
 have hq := put5_below (m := 0) (v0 := .string n0) (v1 := .iface q0 p0) (v2 := .bool b0) (v3 := .slice none 0 0) (v4 := .slice none 0 0) HC.out.1 (Nat.le_refl _)
 refine show bodyPost Tryz.prog Tryz.f69 _ Exit.ret _ (put5 w3 w.heap.size 0 (.string n0) (.iface q0 p0) (.bool b0) (.slice none 0 0) (.slice none 0 0)) from ?_
 generalize put5 w3 w.heap.size 0 (.string n0) (.iface q0 p0) (.bool b0) (.slice none 0 0) (.slice none 0 0) = W at hp hq ⊢
 obtain ⟨y0, y1, y2, y3, y4⟩ := cb5 hp
 refine bodyPost_ret (v := .agg #[.string n0, .iface q0 p0, .bool b0, .slice none 0 0, .slice none 0 0]) (by simp [results, Tryz.results69, go_sem, y0, y1, y2, y3, y4]) rfl ⟨rfl, hq⟩
theorem mapfield70 (g b sg F c nb : Nat) (v1 : Value) (n0 n1 : ByteArray) (q0 q1 : Nat) (p0 p1 : Value) (b0 b1 : Bool) (w : World) (hg : w.cell? ⟨g, 0, none⟩ = some (.pointer (some ⟨b, 0, none⟩))) (hb : w.cell? ⟨b, 1, none⟩ = some (.iface 165 (.pointer (some ⟨sg, 0, none⟩)))) (hA : w.cell? ⟨sg, 0, none⟩ = some (.slice (some ⟨F, 0, none⟩) 2 c)) (k0 : w.cell? ⟨F, 0, none⟩ = some (.string n0)) (k1 : w.cell? ⟨F, 1, none⟩ = some (.iface q0 p0)) (k2 : w.cell? ⟨F, 2, none⟩ = some (.bool b0)) (k3 : w.cell? ⟨F, 3, none⟩ = some (.slice none 0 0)) (k4 : w.cell? ⟨F, 4, none⟩ = some (.slice none 0 0)) (k5 : w.cell? ⟨F, 5, none⟩ = some (.string n1)) (k6 : w.cell? ⟨F, 6, none⟩ = some (.iface q1 p1)) (k7 : w.cell? ⟨F, 7, none⟩ = some (.bool b1)) (k8 : w.cell? ⟨F, 8, none⟩ = some (.slice none 0 0)) (k9 : w.cell? ⟨F, 9, none⟩ = some (.slice none 0 0)) :
 Calls Tryz.prog 70 #[.pointer (some ⟨g, 0, none⟩)] w fun e w' => e = .returned (.agg #[.string n1, .iface q1 p1, .bool b1, .slice none 0 0, .slice none 0 0]) ∧ Below w.heap.size w w' := by
 have ho : ∀ W, (Instr.typeAssert (.iface 165 (.pointer (some ⟨sg, 0, none⟩))) 56 165 false).run Tryz.prog W = .ok (.pointer (some ⟨sg, 0, none⟩)) W := aso_165 _
 go_enter Tryz.func70, Tryz.ntmps70
 go_upto_region 1 with fail
 refine wp_at ?_
 intro w1 hw1
 have hb1 : Below w.heap.size w w1 := by rw [hw1]; exact (Below.refl _ _).alloc (Nat.le_refl _) _
 have hk : w1.heap[w.heap.size]? = some (.cells #[.string ⟨#[]⟩, .nilIface, .bool false, .slice none 0 0, .slice none 0 0] 61 (0, 0)) := by rw [hw1]; exact blk_new _ _
 replace hg := pw_cell_below hb1 hg
 replace hb := pw_cell_below hb1 hb
 replace hA := pw_cell_below hb1 hA
 replace k0 := pw_cell_below hb1 k0
 replace k1 := pw_cell_below hb1 k1
 replace k2 := pw_cell_below hb1 k2
 replace k3 := pw_cell_below hb1 k3
 replace k4 := pw_cell_below hb1 k4
 replace k5 := pw_cell_below hb1 k5
 replace k6 := pw_cell_below hb1 k6
 replace k7 := pw_cell_below hb1 k7
 replace k8 := pw_cell_below hb1 k8
 replace k9 := pw_cell_below hb1 k9
 have HB := Aside0.mk (And.intro hb1 hk)
 have HA := Aside0.mk (And.intro hA (And.intro k5 (And.intro k6 (And.intro k7 (And.intro k8 k9)))))
 clear hw1 hb1 hk hA k0 k1 k2 k3 k4 k5 k6 k7 k8 k9
 go_wp2_with (go_at_call 65; fail)
 refine (elem65 b _ w1 hb).mono ?_
 rintro e w2 ⟨rfl, hb2⟩
 have HB2 := Aside0.mk (And.intro (below_step HB.out.1 hb2) (blk_below HB.out.2 hb2))
 have HB3 := Aside0.mk hb2
 clear hb2 hb hg
 go_wp2_with (go_at_call 95; fail)
 refine (field95_1 sg F 2 c n1 q1 p1 b1 w2 (pw_cell_below HB3.out HA.out.1) (by decide) (pw_cell_below HB3.out HA.out.2.1) (pw_cell_below HB3.out HA.out.2.2.1) (pw_cell_below HB3.out HA.out.2.2.2.1) (pw_cell_below HB3.out HA.out.2.2.2.2.1) (pw_cell_below HB3.out HA.out.2.2.2.2.2)).mono ?_
 rintro e w3 ⟨rfl, hb3⟩
 have hk3 := blk_below HB2.out.2 hb3
 have HC := Aside0.mk (And.intro (below_step HB2.out.1 hb3) hk3)
 obtain ⟨z0, z1, z2, z3, z4⟩ := cb5 hk3
 obtain ⟨f0, f1, f2, f3, f4⟩ := fb5 hk3
 clear hk3 hb3
 go_wp2
 have hp := put5_row (m := 0) HC.out.2 (.string n1) (.iface q1 p1) (.bool b1) (.slice none 0 0) (.slice none 0 0)
 have hq := put5_below (m := 0) (v0 := .string n1) (v1 := .iface q1 p1) (v2 := .bool b1) (v3 := .slice none 0 0) (v4 := .slice none 0 0) HC.out.1 (Nat.le_refl _)
 refine show bodyPost Tryz.prog Tryz.f70 _ Exit.ret _ (put5 w3 w.heap.size 0 (.string n1) (.iface q1 p1) (.bool b1) (.slice none 0 0) (.slice none 0 0)) from ?_
 generalize put5 w3 w.heap.size 0 (.string n1) (.iface q1 p1) (.bool b1) (.slice none 0 0) (.slice none 0 0) = W at hp hq ⊢
 obtain ⟨y0, y1, y2, y3, y4⟩ := cb5 hp
 refine bodyPost_ret (v := .agg #[.string n1, .iface q1 p1, .bool b1, .slice none 0 0, .slice none 0 0]) (by simp [results, Tryz.results70, go_sem, y0, y1, y2, y3, y4]) rfl ⟨rfl, hq⟩
theorem maptype67 (g b sg F c nb : Nat) (v1 : Value) (n0 n1 : ByteArray) (q0 q1 : Nat) (p0 p1 : Value) (b0 b1 : Bool) (w : World) (hg : w.cell? ⟨g, 0, none⟩ = some (.pointer (some ⟨b, 0, none⟩))) (hb : w.cell? ⟨b, 1, none⟩ = some (.iface 165 (.pointer (some ⟨sg, 0, none⟩)))) (hA : w.cell? ⟨sg, 0, none⟩ = some (.slice (some ⟨F, 0, none⟩) 2 c)) (k0 : w.cell? ⟨F, 0, none⟩ = some (.string n0)) (k1 : w.cell? ⟨F, 1, none⟩ = some (.iface q0 p0)) (k2 : w.cell? ⟨F, 2, none⟩ = some (.bool b0)) (k3 : w.cell? ⟨F, 3, none⟩ = some (.slice none 0 0)) (k4 : w.cell? ⟨F, 4, none⟩ = some (.slice none 0 0)) (k5 : w.cell? ⟨F, 5, none⟩ = some (.string n1)) (k6 : w.cell? ⟨F, 6, none⟩ = some (.iface q1 p1)) (k7 : w.cell? ⟨F, 7, none⟩ = some (.bool b1)) (k8 : w.cell? ⟨F, 8, none⟩ = some (.slice none 0 0)) (k9 : w.cell? ⟨F, 9, none⟩ = some (.slice none 0 0)) :
 Calls Tryz.prog 67 #[.pointer (some ⟨g, 0, none⟩)] w fun e w' => e = .returned (.iface q0 p0) ∧ Below w.heap.size w w' := by
 have hC := mapfield69 g b sg F c nb v1 n0 n1 q0 q1 p0 p1 b0 b1 w hg hb hA k0 k1 k2 k3 k4 k5 k6 k7 k8 k9
 clear hg hb hA k0 k1 k2 k3 k4 k5 k6 k7 k8 k9
 go_enter Tryz.func67, Tryz.ntmps67
 go_wp2_with (go_at_call 69; fail)
 refine hC.mono ?_
 rintro e w2 ⟨rfl, hb2⟩
 have HB := Aside0.mk hb2
 clear hb2
 have hfl : ∀ W, (Instr.field 61 (.agg #[.string n0, .iface q0 p0, .bool b0, .slice none 0 0, .slice none 0 0]) 1).run Tryz.prog W = .ok (.iface q0 p0) W := fun W => by kernel_rfl
 go_wp2
 go_ret
 exact ⟨rfl, HB.out⟩
theorem maptype68 (g b sg F c nb : Nat) (v1 : Value) (n0 n1 : ByteArray) (q0 q1 : Nat) (p0 p1 : Value) (b0 b1 : Bool) (w : World) (hg : w.cell? ⟨g, 0, none⟩ = some (.pointer (some ⟨b, 0, none⟩))) (hb : w.cell? ⟨b, 1, none⟩ = some (.iface 165 (.pointer (some ⟨sg, 0, none⟩)))) (hA : w.cell? ⟨sg, 0, none⟩ = some (.slice (some ⟨F, 0, none⟩) 2 c)) (k0 : w.cell? ⟨F, 0, none⟩ = some (.string n0)) (k1 : w.cell? ⟨F, 1, none⟩ = some (.iface q0 p0)) (k2 : w.cell? ⟨F, 2, none⟩ = some (.bool b0)) (k3 : w.cell? ⟨F, 3, none⟩ = some (.slice none 0 0)) (k4 : w.cell? ⟨F, 4, none⟩ = some (.slice none 0 0)) (k5 : w.cell? ⟨F, 5, none⟩ = some (.string n1)) (k6 : w.cell? ⟨F, 6, none⟩ = some (.iface q1 p1)) (k7 : w.cell? ⟨F, 7, none⟩ = some (.bool b1)) (k8 : w.cell? ⟨F, 8, none⟩ = some (.slice none 0 0)) (k9 : w.cell? ⟨F, 9, none⟩ = some (.slice none 0 0)) :
 Calls Tryz.prog 68 #[.pointer (some ⟨g, 0, none⟩)] w fun e w' => e = .returned (.iface q1 p1) ∧ Below w.heap.size w w' := by
 have hC := mapfield70 g b sg F c nb v1 n0 n1 q0 q1 p0 p1 b0 b1 w hg hb hA k0 k1 k2 k3 k4 k5 k6 k7 k8 k9
 clear hg hb hA k0 k1 k2 k3 k4 k5 k6 k7 k8 k9
 go_enter Tryz.func68, Tryz.ntmps68
 go_wp2_with (go_at_call 70; fail)
 refine hC.mono ?_
 rintro e w2 ⟨rfl, hb2⟩
 have HB := Aside0.mk hb2
 clear hb2
 have hfl : ∀ W, (Instr.field 61 (.agg #[.string n1, .iface q1 p1, .bool b1, .slice none 0 0, .slice none 0 0]) 1).run Tryz.prog W = .ok (.iface q1 p1) W := fun W => by kernel_rfl
 go_wp2
 go_ret
 exact ⟨rfl, HB.out⟩
theorem zt_mem {k w : Int} {s : Bool} {u : Int} {t : Nat} (h : (k, w, s, u, t) ∈ zeroTab) : t ∈ zeroT := by
 simp only [zeroTab, List.mem_cons, Prod.mk.injEq, List.not_mem_nil, or_false] at h
 rcases h with ⟨_, _, _, _, rfl⟩ | ⟨_, _, _, _, rfl⟩ | ⟨_, _, _, _, rfl⟩ | ⟨_, _, _, _, rfl⟩ | ⟨_, _, _, _, rfl⟩ | ⟨_, _, _, _, rfl⟩ | ⟨_, _, _, _, rfl⟩ | ⟨_, _, _, _, rfl⟩ | ⟨_, _, _, _, rfl⟩ | ⟨_, _, _, _, rfl⟩ | ⟨_, _, _, _, rfl⟩ | ⟨_, _, _, _, rfl⟩ | ⟨_, _, _, _, rfl⟩ | ⟨_, _, _, _, rfl⟩ | ⟨_, _, _, _, rfl⟩ | ⟨_, _, _, _, rfl⟩ | ⟨_, _, _, _, rfl⟩ | ⟨_, _, _, _, rfl⟩ | ⟨_, _, _, _, rfl⟩ | ⟨_, _, _, _, rfl⟩ | ⟨_, _, _, _, rfl⟩ | ⟨_, _, _, _, rfl⟩ | ⟨_, _, _, _, rfl⟩ | ⟨_, _, _, _, rfl⟩ <;> decide
theorem all2_mem {sub : S28 → DT → Prop} {fs : List S30} {ds : List DF} (h : All2 (FD sub) fs ds) : ∀ f ∈ ds, ∃ T1, sub T1 f.type := by
 induction h with
 | nil => intro f hf; cases hf
 | cons h1 _ ih =>
  intro f hf
  rcases List.mem_cons.mp hf with rfl | hf
  ·obtain ⟨n, T, t, _, rfl, h2, _⟩ := h1
   exact ⟨T, h2⟩
  ·exact ih f hf
theorem TDs.form {sub : S28 → DT → Prop} {T : S28} {d : DT} (h : TDs sub T d) : (∃ t, d = .zero t ∧ t ∈ zeroT) ∨ (∃ t u, d = .num t u ∧ t ∈ [116, 120, 125, 145]) ∨ (∃ u z, d = .stamp u z) ∨ (∃ t p c, d = .dec t p c ∧ t ∈ [214, 217, 219, 221]) ∨ (∃ t T1 d1, d = .list t (.mk nmItem d1 true) ∧ t ∈ [154, 233, 180, 236] ∧ sub T1 d1) ∨
 (∃ w T1 d1, d = .flist w (.mk nmItem d1 true) ∧ sub T1 d1) ∨ (∃ ds, d = .struct ds ∧ ds.length ≤ 100 ∧ ∀ f ∈ ds, ∃ T1, sub T1 f.type) ∨ (∃ K V dk dv fl, d = .map (.mk nmEntries (.struct [.mk nmKey dk false, .mk nmValue dv true]) false) fl ∧ sub K dk ∧ sub V dv ∧ ∃ E, sub E (.struct [.mk nmKey dk false, .mk nmValue dv true])) ∨
 (∃ t ds ids, d = .union t ds ids ∧ t ∈ [224, 226] ∧ 0 < ds.length ∧ ds.length ≤ 100 ∧ ids.length = ds.length ∧ (∀ x ∈ ids, 0 ≤ x ∧ x ≤ 126) ∧ ids.Nodup ∧ ∀ f ∈ ds, ∃ T1, sub T1 f.type) ∨ (∃ R V dr dv, d = .ree dr dv true ∧ sub R dr ∧ sub V dv) ∨ (∃ I V di dv fl, d = .dict di dv fl ∧ sub I di ∧ sub V dv) := by
 cases h with
 | zero k w s u t h1 => exact .inl ⟨t, rfl, zt_mem h1⟩
 | time u t h1 =>
  refine .inr (.inl ⟨t, u, rfl, ?_⟩)
  simp only [timeTab, List.mem_cons, Prod.mk.injEq, List.not_mem_nil, or_false] at h1
  rcases h1 with ⟨_, rfl⟩ | ⟨_, rfl⟩ | ⟨_, rfl⟩ | ⟨_, rfl⟩ <;> decide
 | stamp u z h0 h1 h2 => exact .inr (.inr (.inl ⟨u, z, rfl⟩))
 | dur u h0 h1 => exact .inr (.inl ⟨125, u, rfl, by decide⟩)
 | dec w t p c h1 h0 h2 h3 h4 =>
  refine .inr (.inr (.inr (.inl ⟨t, p, c, rfl, ?_⟩)))
  simp only [decTab, List.mem_cons, Prod.mk.injEq, List.not_mem_nil, or_false] at h1
  rcases h1 with ⟨_, rfl⟩ | ⟨_, rfl⟩ | ⟨_, rfl⟩ | ⟨_, rfl⟩ <;> decide
 | fsb w h0 h1 => exact .inr (.inl ⟨145, w, rfl, by decide⟩)
 | list k t T d h1 hs =>
  refine .inr (.inr (.inr (.inr (.inl ⟨t, T, d, rfl, ?_, hs⟩))))
  simp only [listTab, List.mem_cons, Prod.mk.injEq, List.not_mem_nil, or_false] at h1
  rcases h1 with ⟨_, rfl⟩ | ⟨_, rfl⟩ | ⟨_, rfl⟩ | ⟨_, rfl⟩ <;> decide
 | flist w T d h0 h1 hs => exact .inr (.inr (.inr (.inr (.inr (.inl ⟨w, T, d, rfl, hs⟩)))))
 | struct fs ds h1 hl => exact .inr (.inr (.inr (.inr (.inr (.inr (.inl ⟨ds, rfl, by rw [← h1.length]; exact hl, all2_mem h1⟩))))))
 | entries K V dk dv hk hv =>
  refine .inr (.inr (.inr (.inr (.inr (.inr (.inl ⟨_, rfl, by simp, ?_⟩))))))
  intro f hf
  simp only [List.mem_cons, List.not_mem_nil, or_false] at hf
  rcases hf with rfl | rfl
  ·exact ⟨K, hk⟩
  ·exact ⟨V, hv⟩
 | map K V dk dv fl he hk hv => exact .inr (.inr (.inr (.inr (.inr (.inr (.inr (.inl ⟨K, V, dk, dv, fl, rfl, hk, hv, _, he⟩)))))))
 | union u t fs ds ids h1 hf h0 hl hi hr hd =>
  refine .inr (.inr (.inr (.inr (.inr (.inr (.inr (.inr (.inl ⟨t, ds, ids, rfl, ?_, by rw [← hf.length]; exact h0, by rw [← hf.length]; exact hl, by rw [← hf.length]; exact hi, hr, hd, all2_mem hf⟩))))))))
  simp only [unionTab, List.mem_cons, Prod.mk.injEq, List.not_mem_nil, or_false] at h1
  rcases h1 with ⟨_, rfl⟩ | ⟨_, rfl⟩ <;> decide
 | ree R V dr dv hr hv => exact .inr (.inr (.inr (.inr (.inr (.inr (.inr (.inr (.inr (.inl ⟨R, V, dr, dv, rfl, hr, hv⟩)))))))))
 | dict I V di dv fl hi hv => exact .inr (.inr (.inr (.inr (.inr (.inr (.inr (.inr (.inr (.inr ⟨I, V, di, dv, fl, rfl, hi, hv⟩)))))))))
theorem apart {t : Nat} {l m : List Nat} (h : t ∈ l) (h' : t ∈ m) (hd : (l.all fun x => !(m.contains x)) = true) : False := by
 have h1 := List.all_eq_true.mp hd t h
 simp at h1
 exact h1 h'
theorem TDs.zero_of {sub : S28 → DT → Prop} {T : S28} {d : DT} (h : TDs sub T d) {t : Nat} (ht : tyN d = t) (hc : t ∈ zeroT) : d = .zero t := by
 rcases h.form with ⟨t, rfl, hm⟩ | ⟨t, u, rfl, hm⟩ | ⟨u, z, rfl⟩ | ⟨t, p, c, rfl, hm⟩ | ⟨t, T1, d1, rfl, hm, hs⟩ | ⟨w, T1, d1, rfl, hs⟩ | ⟨ds, rfl, hs⟩ | ⟨K, V, dk, dv, fl, rfl, hs⟩ | ⟨t, ds, ids, rfl, hm, hs⟩ | ⟨R, V, dr, dv, rfl, hs⟩ | ⟨I, V, di, dv, fl, rfl, hs⟩
 ·obtain rfl := ht; exact rfl
 ·obtain rfl := ht; exact (apart hm hc (by decide)).elim
 ·exact (apart (show t ∈ [122] from by have e : (122 : Nat) = t := ht; rw [← e]; decide) hc (by decide)).elim
 ·obtain rfl := ht; exact (apart hm hc (by decide)).elim
 ·obtain rfl := ht; exact (apart hm hc (by decide)).elim
 ·exact (apart (show t ∈ [158] from by have e : (158 : Nat) = t := ht; rw [← e]; decide) hc (by decide)).elim
 ·exact (apart (show t ∈ [165] from by have e : (165 : Nat) = t := ht; rw [← e]; decide) hc (by decide)).elim
 ·exact (apart (show t ∈ [161] from by have e : (161 : Nat) = t := ht; rw [← e]; decide) hc (by decide)).elim
 ·obtain rfl := ht; exact (apart hm hc (by decide)).elim
 ·exact (apart (show t ∈ [177] from by have e : (177 : Nat) = t := ht; rw [← e]; decide) hc (by decide)).elim
 ·exact (apart (show t ∈ [229] from by have e : (229 : Nat) = t := ht; rw [← e]; decide) hc (by decide)).elim
theorem TDs.num_of {sub : S28 → DT → Prop} {T : S28} {d : DT} (h : TDs sub T d) {t : Nat} (ht : tyN d = t) (hc : t ∈ [116, 120, 125, 145]) : ∃ u, d = .num t u := by
 rcases h.form with ⟨t, rfl, hm⟩ | ⟨t, u, rfl, hm⟩ | ⟨u, z, rfl⟩ | ⟨t, p, c, rfl, hm⟩ | ⟨t, T1, d1, rfl, hm, hs⟩ | ⟨w, T1, d1, rfl, hs⟩ | ⟨ds, rfl, hs⟩ | ⟨K, V, dk, dv, fl, rfl, hs⟩ | ⟨t, ds, ids, rfl, hm, hs⟩ | ⟨R, V, dr, dv, rfl, hs⟩ | ⟨I, V, di, dv, fl, rfl, hs⟩
 ·obtain rfl := ht; exact (apart hm hc (by decide)).elim
 ·obtain rfl := ht; exact ⟨_, rfl⟩
 ·exact (apart (show t ∈ [122] from by have e : (122 : Nat) = t := ht; rw [← e]; decide) hc (by decide)).elim
 ·obtain rfl := ht; exact (apart hm hc (by decide)).elim
 ·obtain rfl := ht; exact (apart hm hc (by decide)).elim
 ·exact (apart (show t ∈ [158] from by have e : (158 : Nat) = t := ht; rw [← e]; decide) hc (by decide)).elim
 ·exact (apart (show t ∈ [165] from by have e : (165 : Nat) = t := ht; rw [← e]; decide) hc (by decide)).elim
 ·exact (apart (show t ∈ [161] from by have e : (161 : Nat) = t := ht; rw [← e]; decide) hc (by decide)).elim
 ·obtain rfl := ht; exact (apart hm hc (by decide)).elim
 ·exact (apart (show t ∈ [177] from by have e : (177 : Nat) = t := ht; rw [← e]; decide) hc (by decide)).elim
 ·exact (apart (show t ∈ [229] from by have e : (229 : Nat) = t := ht; rw [← e]; decide) hc (by decide)).elim
theorem TDs.stamp_of {sub : S28 → DT → Prop} {T : S28} {d : DT} (h : TDs sub T d) {t : Nat} (ht : tyN d = t) (hc : t = 122) : ∃ u z, d = .stamp u z := by
 have hc2 : t ∈ [122] := by rw [hc]; decide
 rcases h.form with ⟨t, rfl, hm⟩ | ⟨t, u, rfl, hm⟩ | ⟨u, z, rfl⟩ | ⟨t, p, c, rfl, hm⟩ | ⟨t, T1, d1, rfl, hm, hs⟩ | ⟨w, T1, d1, rfl, hs⟩ | ⟨ds, rfl, hs⟩ | ⟨K, V, dk, dv, fl, rfl, hs⟩ | ⟨t, ds, ids, rfl, hm, hs⟩ | ⟨R, V, dr, dv, rfl, hs⟩ | ⟨I, V, di, dv, fl, rfl, hs⟩
 ·obtain rfl := ht; exact (apart hm hc2 (by decide)).elim
 ·obtain rfl := ht; exact (apart hm hc2 (by decide)).elim
 ·exact ⟨_, _, rfl⟩
 ·obtain rfl := ht; exact (apart hm hc2 (by decide)).elim
 ·obtain rfl := ht; exact (apart hm hc2 (by decide)).elim
 ·exact (apart (show t ∈ [158] from by have e : (158 : Nat) = t := ht; rw [← e]; decide) hc2 (by decide)).elim
 ·exact (apart (show t ∈ [165] from by have e : (165 : Nat) = t := ht; rw [← e]; decide) hc2 (by decide)).elim
 ·exact (apart (show t ∈ [161] from by have e : (161 : Nat) = t := ht; rw [← e]; decide) hc2 (by decide)).elim
 ·obtain rfl := ht; exact (apart hm hc2 (by decide)).elim
 ·exact (apart (show t ∈ [177] from by have e : (177 : Nat) = t := ht; rw [← e]; decide) hc2 (by decide)).elim
 ·exact (apart (show t ∈ [229] from by have e : (229 : Nat) = t := ht; rw [← e]; decide) hc2 (by decide)).elim
theorem TDs.dec_of {sub : S28 → DT → Prop} {T : S28} {d : DT} (h : TDs sub T d) {t : Nat} (ht : tyN d = t) (hc : t ∈ [214, 217, 219, 221]) : ∃ p c, d = .dec t p c := by
 rcases h.form with ⟨t, rfl, hm⟩ | ⟨t, u, rfl, hm⟩ | ⟨u, z, rfl⟩ | ⟨t, p, c, rfl, hm⟩ | ⟨t, T1, d1, rfl, hm, hs⟩ | ⟨w, T1, d1, rfl, hs⟩ | ⟨ds, rfl, hs⟩ | ⟨K, V, dk, dv, fl, rfl, hs⟩ | ⟨t, ds, ids, rfl, hm, hs⟩ | ⟨R, V, dr, dv, rfl, hs⟩ | ⟨I, V, di, dv, fl, rfl, hs⟩
 ·obtain rfl := ht; exact (apart hm hc (by decide)).elim
 ·obtain rfl := ht; exact (apart hm hc (by decide)).elim
 ·exact (apart (show t ∈ [122] from by have e : (122 : Nat) = t := ht; rw [← e]; decide) hc (by decide)).elim
 ·obtain rfl := ht; exact ⟨_, _, rfl⟩
 ·obtain rfl := ht; exact (apart hm hc (by decide)).elim
 ·exact (apart (show t ∈ [158] from by have e : (158 : Nat) = t := ht; rw [← e]; decide) hc (by decide)).elim
 ·exact (apart (show t ∈ [165] from by have e : (165 : Nat) = t := ht; rw [← e]; decide) hc (by decide)).elim
 ·exact (apart (show t ∈ [161] from by have e : (161 : Nat) = t := ht; rw [← e]; decide) hc (by decide)).elim
 ·obtain rfl := ht; exact (apart hm hc (by decide)).elim
 ·exact (apart (show t ∈ [177] from by have e : (177 : Nat) = t := ht; rw [← e]; decide) hc (by decide)).elim
 ·exact (apart (show t ∈ [229] from by have e : (229 : Nat) = t := ht; rw [← e]; decide) hc (by decide)).elim
theorem TDs.list_of {sub : S28 → DT → Prop} {T : S28} {d : DT} (h : TDs sub T d) {t : Nat} (ht : tyN d = t) (hc : t ∈ [154, 233, 180, 236]) : ∃ T1 d1, d = .list t (.mk nmItem d1 true) ∧ sub T1 d1 := by
 rcases h.form with ⟨t, rfl, hm⟩ | ⟨t, u, rfl, hm⟩ | ⟨u, z, rfl⟩ | ⟨t, p, c, rfl, hm⟩ | ⟨t, T1, d1, rfl, hm, hs⟩ | ⟨w, T1, d1, rfl, hs⟩ | ⟨ds, rfl, hs⟩ | ⟨K, V, dk, dv, fl, rfl, hs⟩ | ⟨t, ds, ids, rfl, hm, hs⟩ | ⟨R, V, dr, dv, rfl, hs⟩ | ⟨I, V, di, dv, fl, rfl, hs⟩
 ·obtain rfl := ht; exact (apart hm hc (by decide)).elim
 ·obtain rfl := ht; exact (apart hm hc (by decide)).elim
 ·exact (apart (show t ∈ [122] from by have e : (122 : Nat) = t := ht; rw [← e]; decide) hc (by decide)).elim
 ·obtain rfl := ht; exact (apart hm hc (by decide)).elim
 ·obtain rfl := ht; exact ⟨_, _, rfl, hs⟩
 ·exact (apart (show t ∈ [158] from by have e : (158 : Nat) = t := ht; rw [← e]; decide) hc (by decide)).elim
 ·exact (apart (show t ∈ [165] from by have e : (165 : Nat) = t := ht; rw [← e]; decide) hc (by decide)).elim
 ·exact (apart (show t ∈ [161] from by have e : (161 : Nat) = t := ht; rw [← e]; decide) hc (by decide)).elim
 ·obtain rfl := ht; exact (apart hm hc (by decide)).elim
 ·exact (apart (show t ∈ [177] from by have e : (177 : Nat) = t := ht; rw [← e]; decide) hc (by decide)).elim
 ·exact (apart (show t ∈ [229] from by have e : (229 : Nat) = t := ht; rw [← e]; decide) hc (by decide)).elim
theorem TDs.flist_of {sub : S28 → DT → Prop} {T : S28} {d : DT} (h : TDs sub T d) {t : Nat} (ht : tyN d = t) (hc : t = 158) : ∃ w T1 d1, d = .flist w (.mk nmItem d1 true) ∧ sub T1 d1 := by
 have hc2 : t ∈ [158] := by rw [hc]; decide
 rcases h.form with ⟨t, rfl, hm⟩ | ⟨t, u, rfl, hm⟩ | ⟨u, z, rfl⟩ | ⟨t, p, c, rfl, hm⟩ | ⟨t, T1, d1, rfl, hm, hs⟩ | ⟨w, T1, d1, rfl, hs⟩ | ⟨ds, rfl, hs⟩ | ⟨K, V, dk, dv, fl, rfl, hs⟩ | ⟨t, ds, ids, rfl, hm, hs⟩ | ⟨R, V, dr, dv, rfl, hs⟩ | ⟨I, V, di, dv, fl, rfl, hs⟩
 ·obtain rfl := ht; exact (apart hm hc2 (by decide)).elim
 ·obtain rfl := ht; exact (apart hm hc2 (by decide)).elim
 ·exact (apart (show t ∈ [122] from by have e : (122 : Nat) = t := ht; rw [← e]; decide) hc2 (by decide)).elim
 ·obtain rfl := ht; exact (apart hm hc2 (by decide)).elim
 ·obtain rfl := ht; exact (apart hm hc2 (by decide)).elim
 ·exact ⟨_, _, _, rfl, hs⟩
 ·exact (apart (show t ∈ [165] from by have e : (165 : Nat) = t := ht; rw [← e]; decide) hc2 (by decide)).elim
 ·exact (apart (show t ∈ [161] from by have e : (161 : Nat) = t := ht; rw [← e]; decide) hc2 (by decide)).elim
 ·obtain rfl := ht; exact (apart hm hc2 (by decide)).elim
 ·exact (apart (show t ∈ [177] from by have e : (177 : Nat) = t := ht; rw [← e]; decide) hc2 (by decide)).elim
 ·exact (apart (show t ∈ [229] from by have e : (229 : Nat) = t := ht; rw [← e]; decide) hc2 (by decide)).elim
theorem TDs.struct_of {sub : S28 → DT → Prop} {T : S28} {d : DT} (h : TDs sub T d) {t : Nat} (ht : tyN d = t) (hc : t = 165) : ∃ ds, d = .struct ds ∧ ds.length ≤ 100 ∧ ∀ f ∈ ds, ∃ T1, sub T1 f.type := by
 have hc2 : t ∈ [165] := by rw [hc]; decide
 rcases h.form with ⟨t, rfl, hm⟩ | ⟨t, u, rfl, hm⟩ | ⟨u, z, rfl⟩ | ⟨t, p, c, rfl, hm⟩ | ⟨t, T1, d1, rfl, hm, hs⟩ | ⟨w, T1, d1, rfl, hs⟩ | ⟨ds, rfl, hs⟩ | ⟨K, V, dk, dv, fl, rfl, hs⟩ | ⟨t, ds, ids, rfl, hm, hs⟩ | ⟨R, V, dr, dv, rfl, hs⟩ | ⟨I, V, di, dv, fl, rfl, hs⟩
 ·obtain rfl := ht; exact (apart hm hc2 (by decide)).elim
 ·obtain rfl := ht; exact (apart hm hc2 (by decide)).elim
 ·exact (apart (show t ∈ [122] from by have e : (122 : Nat) = t := ht; rw [← e]; decide) hc2 (by decide)).elim
 ·obtain rfl := ht; exact (apart hm hc2 (by decide)).elim
 ·obtain rfl := ht; exact (apart hm hc2 (by decide)).elim
 ·exact (apart (show t ∈ [158] from by have e : (158 : Nat) = t := ht; rw [← e]; decide) hc2 (by decide)).elim
 ·exact ⟨_, rfl, hs⟩
 ·exact (apart (show t ∈ [161] from by have e : (161 : Nat) = t := ht; rw [← e]; decide) hc2 (by decide)).elim
 ·obtain rfl := ht; exact (apart hm hc2 (by decide)).elim
 ·exact (apart (show t ∈ [177] from by have e : (177 : Nat) = t := ht; rw [← e]; decide) hc2 (by decide)).elim
 ·exact (apart (show t ∈ [229] from by have e : (229 : Nat) = t := ht; rw [← e]; decide) hc2 (by decide)).elim
theorem TDs.map_of {sub : S28 → DT → Prop} {T : S28} {d : DT} (h : TDs sub T d) {t : Nat} (ht : tyN d = t) (hc : t = 161) : ∃ K V dk dv fl, d = .map (.mk nmEntries (.struct [.mk nmKey dk false, .mk nmValue dv true]) false) fl ∧ sub K dk ∧ sub V dv ∧ ∃ E, sub E (.struct [.mk nmKey dk false, .mk nmValue dv true]) := by
 have hc2 : t ∈ [161] := by rw [hc]; decide
 rcases h.form with ⟨t, rfl, hm⟩ | ⟨t, u, rfl, hm⟩ | ⟨u, z, rfl⟩ | ⟨t, p, c, rfl, hm⟩ | ⟨t, T1, d1, rfl, hm, hs⟩ | ⟨w, T1, d1, rfl, hs⟩ | ⟨ds, rfl, hs⟩ | ⟨K, V, dk, dv, fl, rfl, hs⟩ | ⟨t, ds, ids, rfl, hm, hs⟩ | ⟨R, V, dr, dv, rfl, hs⟩ | ⟨I, V, di, dv, fl, rfl, hs⟩
 ·obtain rfl := ht; exact (apart hm hc2 (by decide)).elim
 ·obtain rfl := ht; exact (apart hm hc2 (by decide)).elim
 ·exact (apart (show t ∈ [122] from by have e : (122 : Nat) = t := ht; rw [← e]; decide) hc2 (by decide)).elim
 ·obtain rfl := ht; exact (apart hm hc2 (by decide)).elim
 ·obtain rfl := ht; exact (apart hm hc2 (by decide)).elim
 ·exact (apart (show t ∈ [158] from by have e : (158 : Nat) = t := ht; rw [← e]; decide) hc2 (by decide)).elim
 ·exact (apart (show t ∈ [165] from by have e : (165 : Nat) = t := ht; rw [← e]; decide) hc2 (by decide)).elim
 ·exact ⟨_, _, _, _, _, rfl, hs⟩
 ·obtain rfl := ht; exact (apart hm hc2 (by decide)).elim
 ·exact (apart (show t ∈ [177] from by have e : (177 : Nat) = t := ht; rw [← e]; decide) hc2 (by decide)).elim
 ·exact (apart (show t ∈ [229] from by have e : (229 : Nat) = t := ht; rw [← e]; decide) hc2 (by decide)).elim
theorem TDs.union_of {sub : S28 → DT → Prop} {T : S28} {d : DT} (h : TDs sub T d) {t : Nat} (ht : tyN d = t) (hc : t ∈ [224, 226]) : ∃ ds ids, d = .union t ds ids ∧ 0 < ds.length ∧ ds.length ≤ 100 ∧ ids.length = ds.length ∧ (∀ x ∈ ids, 0 ≤ x ∧ x ≤ 126) ∧ ids.Nodup ∧ ∀ f ∈ ds, ∃ T1, sub T1 f.type := by
 rcases h.form with ⟨t, rfl, hm⟩ | ⟨t, u, rfl, hm⟩ | ⟨u, z, rfl⟩ | ⟨t, p, c, rfl, hm⟩ | ⟨t, T1, d1, rfl, hm, hs⟩ | ⟨w, T1, d1, rfl, hs⟩ | ⟨ds, rfl, hs⟩ | ⟨K, V, dk, dv, fl, rfl, hs⟩ | ⟨t, ds, ids, rfl, hm, hs⟩ | ⟨R, V, dr, dv, rfl, hs⟩ | ⟨I, V, di, dv, fl, rfl, hs⟩
 ·obtain rfl := ht; exact (apart hm hc (by decide)).elim
 ·obtain rfl := ht; exact (apart hm hc (by decide)).elim
 ·exact (apart (show t ∈ [122] from by have e : (122 : Nat) = t := ht; rw [← e]; decide) hc (by decide)).elim
 ·obtain rfl := ht; exact (apart hm hc (by decide)).elim
 ·obtain rfl := ht; exact (apart hm hc (by decide)).elim
 ·exact (apart (show t ∈ [158] from by have e : (158 : Nat) = t := ht; rw [← e]; decide) hc (by decide)).elim
 ·exact (apart (show t ∈ [165] from by have e : (165 : Nat) = t := ht; rw [← e]; decide) hc (by decide)).elim
 ·exact (apart (show t ∈ [161] from by have e : (161 : Nat) = t := ht; rw [← e]; decide) hc (by decide)).elim
 ·obtain rfl := ht; exact ⟨_, _, rfl, hs⟩
 ·exact (apart (show t ∈ [177] from by have e : (177 : Nat) = t := ht; rw [← e]; decide) hc (by decide)).elim
 ·exact (apart (show t ∈ [229] from by have e : (229 : Nat) = t := ht; rw [← e]; decide) hc (by decide)).elim
theorem TDs.ree_of {sub : S28 → DT → Prop} {T : S28} {d : DT} (h : TDs sub T d) {t : Nat} (ht : tyN d = t) (hc : t = 177) : ∃ R V dr dv, d = .ree dr dv true ∧ sub R dr ∧ sub V dv := by
 have hc2 : t ∈ [177] := by rw [hc]; decide
 rcases h.form with ⟨t, rfl, hm⟩ | ⟨t, u, rfl, hm⟩ | ⟨u, z, rfl⟩ | ⟨t, p, c, rfl, hm⟩ | ⟨t, T1, d1, rfl, hm, hs⟩ | ⟨w, T1, d1, rfl, hs⟩ | ⟨ds, rfl, hs⟩ | ⟨K, V, dk, dv, fl, rfl, hs⟩ | ⟨t, ds, ids, rfl, hm, hs⟩ | ⟨R, V, dr, dv, rfl, hs⟩ | ⟨I, V, di, dv, fl, rfl, hs⟩
 ·obtain rfl := ht; exact (apart hm hc2 (by decide)).elim
 ·obtain rfl := ht; exact (apart hm hc2 (by decide)).elim
 ·exact (apart (show t ∈ [122] from by have e : (122 : Nat) = t := ht; rw [← e]; decide) hc2 (by decide)).elim
 ·obtain rfl := ht; exact (apart hm hc2 (by decide)).elim
 ·obtain rfl := ht; exact (apart hm hc2 (by decide)).elim
 ·exact (apart (show t ∈ [158] from by have e : (158 : Nat) = t := ht; rw [← e]; decide) hc2 (by decide)).elim
 ·exact (apart (show t ∈ [165] from by have e : (165 : Nat) = t := ht; rw [← e]; decide) hc2 (by decide)).elim
 ·exact (apart (show t ∈ [161] from by have e : (161 : Nat) = t := ht; rw [← e]; decide) hc2 (by decide)).elim
 ·obtain rfl := ht; exact (apart hm hc2 (by decide)).elim
 ·exact ⟨_, _, _, _, rfl, hs⟩
 ·exact (apart (show t ∈ [229] from by have e : (229 : Nat) = t := ht; rw [← e]; decide) hc2 (by decide)).elim
theorem TDs.dict_of {sub : S28 → DT → Prop} {T : S28} {d : DT} (h : TDs sub T d) {t : Nat} (ht : tyN d = t) (hc : t = 229) : ∃ I V di dv fl, d = .dict di dv fl ∧ sub I di ∧ sub V dv := by
 have hc2 : t ∈ [229] := by rw [hc]; decide
 rcases h.form with ⟨t, rfl, hm⟩ | ⟨t, u, rfl, hm⟩ | ⟨u, z, rfl⟩ | ⟨t, p, c, rfl, hm⟩ | ⟨t, T1, d1, rfl, hm, hs⟩ | ⟨w, T1, d1, rfl, hs⟩ | ⟨ds, rfl, hs⟩ | ⟨K, V, dk, dv, fl, rfl, hs⟩ | ⟨t, ds, ids, rfl, hm, hs⟩ | ⟨R, V, dr, dv, rfl, hs⟩ | ⟨I, V, di, dv, fl, rfl, hs⟩
 ·obtain rfl := ht; exact (apart hm hc2 (by decide)).elim
 ·obtain rfl := ht; exact (apart hm hc2 (by decide)).elim
 ·exact (apart (show t ∈ [122] from by have e : (122 : Nat) = t := ht; rw [← e]; decide) hc2 (by decide)).elim
 ·obtain rfl := ht; exact (apart hm hc2 (by decide)).elim
 ·obtain rfl := ht; exact (apart hm hc2 (by decide)).elim
 ·exact (apart (show t ∈ [158] from by have e : (158 : Nat) = t := ht; rw [← e]; decide) hc2 (by decide)).elim
 ·exact (apart (show t ∈ [165] from by have e : (165 : Nat) = t := ht; rw [← e]; decide) hc2 (by decide)).elim
 ·exact (apart (show t ∈ [161] from by have e : (161 : Nat) = t := ht; rw [← e]; decide) hc2 (by decide)).elim
 ·obtain rfl := ht; exact (apart hm hc2 (by decide)).elim
 ·exact (apart (show t ∈ [177] from by have e : (177 : Nat) = t := ht; rw [← e]; decide) hc2 (by decide)).elim
 ·exact ⟨_, _, _, _, _, rfl, hs⟩
theorem make26 (W : World) : (Instr.makeSlice 26 (.int .i64 0) (.int .i64 0)).run Tryz.prog W = .ok (.slice (some ⟨W.heap.size, 0, none⟩) 0 0) (W.alloc (.cells (madeCells #[.int .i64 0] 0) 3)) := by
 have hi : Tryz.prog.info? 3 = some Tryz.t3 := by kernel_rfl
 have hb : Tryz.t3.bytes = 8 := by kernel_rfl
 have hs : Tryz.t3.size = 1 := by kernel_rfl
 have h := run_make W 26 3 Tryz.t3 (.int .i64 0) Tryz.underlying26 hi (by kernel_rfl) .i64 .i64 0 0 (by omega) (by omega) (by rw [hb]; omega) (by omega)
 rw [hs] at h
 exact h
theorem idx83 (w : World) : Calls Tryz.prog 83 #[.agg #[.slice none 0 0, .slice none 0 0]] w fun e w' => (∃ g, e = .returned (.slice (some ⟨g, 0, none⟩) 0 0)) ∧ Below w.heap.size w w' := by
 have hmk := make26
 go_enter Tryz.func83, Tryz.ntmps83
 go_wp2
 go_rounds 1
 go_rounds 1
 go_rounds 1
 go_wp2
 go_ret
 exact ⟨⟨_, rfl⟩, bl⟩
theorem len82 (w : World) : Calls Tryz.prog 82 #[.agg #[.slice none 0 0, .slice none 0 0]] w fun e w' => e = .returned (.int .i64 0) ∧ Below w.heap.size w w' := by
 go_enter Tryz.func82, Tryz.ntmps82
 go_wp2
 go_ret
 exact ⟨rfl, bl⟩
theorem alloc_size_ (w : World) (o : Obj) : (w.alloc o).heap.size = w.heap.size + 1 := by first | (simp; done) | (show (w.heap.push _).size = _; simp)
theorem meta52 (w : World) : Calls Tryz.prog 52 #[.agg #[.slice none 0 0, .slice none 0 0], .agg #[.slice none 0 0, .slice none 0 0]] w fun e w' => e = .returned (.bool true) ∧ Below w.heap.size w w' := by
 go_enter Tryz.func52, Tryz.ntmps52
 go_upto_region 1 with fail
 refine wp_at ?_
 intro w1 hw1
 have b1 : Below w.heap.size w w1 := by rw [hw1]; repeat (first | exact Below.refl _ _ | apply b1_ | apply b2_ | apply b3_)
 have k0 : w1.heap[w.heap.size]? = some (.cells #[.slice none 0 0, .slice none 0 0] 59 (0, 0)) := by rw [hw1]; exact blk_alloc_ (blk_new _ _)
 have k1 : w1.heap[w.heap.size + 1]? = some (.cells #[.slice none 0 0, .slice none 0 0] 59 (0, 0)) := by rw [hw1]; exact blk_new_at (by rw [alloc_size_])
 clear hw1
 obtain ⟨c0, c1⟩ := cb2 k0
 obtain ⟨d0, d1⟩ := cb2 k1
 have HB := Aside0.mk (And.intro b1 (And.intro k0 k1))
 clear b1 k0 k1
 go_upto_region 1 with fail
 refine start_ (n := 5) (S := fun w' => w'.cell? ⟨w.heap.size, 0, none⟩ = some (.slice none 0 0) ∧ w'.cell? ⟨w.heap.size, 1, none⟩ = some (.slice none 0 0) ∧ w'.cell? ⟨w.heap.size + 1, 0, none⟩ = some (.slice none 0 0) ∧ w'.cell? ⟨w.heap.size + 1, 1, none⟩ = some (.slice none 0 0)) (ds := []) (ba 5 0) (by kernel_rfl) rfl rfl ⟨c0, c1, d0, d1⟩ (fun hHeld => ?_)
 generalize hw_ : w1.drew = u0 at hHeld ⊢
 have Hu0 := Aside0.mk (show Below w1.heap.size w1 u0 from by rw [← hw_]; exact b3_ (Below.refl _ _))
 clear hw_
 clear c0 c1 d0 d1
 have Su0 := Aside0.mk hHeld
 refine ta 0 10 1 ?_
 refine ta 2 12 5 ?_
 refine one_ (i := 1) (N := some 11) (ba 5 7) rfl rfl (by kernel_rfl) (by decide) (fun K hK => ?_)
 refine goes_ Tryz.func82 (by kernel_rfl) rfl #[.agg #[.slice none 0 0, .slice none 0 0]] (by rfl) rfl rfl (by (try simp only [List.map_toArray, List.map_cons, List.map_nil]); first | done | rfl) ?_
 refine (len82 u0).mono ?_
 rintro e u1 ⟨rfl, hb⟩
 have Hu1 := Aside0.mk (below_step Hu0.out hb)
 have Su1 := Aside0.mk (show u1.cell? ⟨w.heap.size, 0, none⟩ = some (.slice none 0 0) ∧ u1.cell? ⟨w.heap.size, 1, none⟩ = some (.slice none 0 0) ∧ u1.cell? ⟨w.heap.size + 1, 0, none⟩ = some (.slice none 0 0) ∧ u1.cell? ⟨w.heap.size + 1, 1, none⟩ = some (.slice none 0 0) from ⟨pw_cell_below hb Su0.out.1, pw_cell_below hb Su0.out.2.1, pw_cell_below hb Su0.out.2.2.1, pw_cell_below hb Su0.out.2.2.2⟩)
 clear hb
 refine ⟨_, rfl, ?_⟩
 refine hK.out _ _ Su1.out (fun hHeld => ?_)
 clear hK K
 refine no 11 ?_
 refine one_ (i := 3) (N := some 13) (ba 5 15) rfl rfl (by kernel_rfl) (by decide) (fun K hK => ?_)
 refine goes_ Tryz.func82 (by kernel_rfl) rfl #[.agg #[.slice none 0 0, .slice none 0 0]] (by rfl) rfl rfl (by (try simp only [List.map_toArray, List.map_cons, List.map_nil]); first | done | rfl) ?_
 refine (len82 u1).mono ?_
 rintro e u2 ⟨rfl, hb⟩
 have Hu2 := Aside0.mk (below_step Hu1.out hb)
 have Su2 := Aside0.mk (show u2.cell? ⟨w.heap.size, 0, none⟩ = some (.slice none 0 0) ∧ u2.cell? ⟨w.heap.size, 1, none⟩ = some (.slice none 0 0) ∧ u2.cell? ⟨w.heap.size + 1, 0, none⟩ = some (.slice none 0 0) ∧ u2.cell? ⟨w.heap.size + 1, 1, none⟩ = some (.slice none 0 0) from ⟨pw_cell_below hb Su1.out.1, pw_cell_below hb Su1.out.2.1, pw_cell_below hb Su1.out.2.2.1, pw_cell_below hb Su1.out.2.2.2⟩)
 clear hb
 refine ⟨_, rfl, ?_⟩
 refine hK.out _ _ Su2.out (fun hHeld => ?_)
 clear hK K
 refine no 13 ?_
 refine pu 4 14 31 ?_
 refine done_ (by kernel_rfl) ?_
 clear hHeld
 have c0 := Su2.out.1
 have c1 := Su2.out.2.1
 have d0 := Su2.out.2.2.1
 have d1 := Su2.out.2.2.2
 go_wp2_with (go_at_call 83; fail)
 refine (idx83 _).mono ?_
 rintro e w3 ⟨⟨g3, rfl⟩, hb3⟩
 replace c0 := pw_cell_below hb3 c0
 replace c1 := pw_cell_below hb3 c1
 replace d0 := pw_cell_below hb3 d0
 replace d1 := pw_cell_below hb3 d1
 have HB3 := Aside0.mk (below_step (below_step HB.out.1 Hu2.out) hb3)
 clear hb3
 go_wp2_with (go_at_call 83; fail)
 refine (idx83 _).mono ?_
 rintro e w4 ⟨⟨g4, rfl⟩, hb4⟩
 have HB4 := Aside0.mk (below_step HB3.out hb4)
 clear hb4 c0 c1 d0 d1
 go_wp2
 go_rounds 1
 go_wp2
 go_ret
 exact ⟨rfl, HB4.out⟩
def OptAt (w : World) (A : Option Addr) (m : Nat) : Prop := (m = 0 ∧ A = none) ∨ (m = 1 ∧ ∃ g, A = some ⟨g, 0, none⟩ ∧ w.heap[g]? = some (.cells #[.func (.func 74) #[] #[]] 70 (0, 0)))
theorem OptAt.below {w w' : World} {A : Option Addr} {m : Nat} (h : OptAt w A m) (hb : Below w.heap.size w w') : OptAt w' A m := by
 rcases h with h | ⟨h0, g, h1, h2⟩
 ·exact .inl h
 ·exact .inr ⟨h0, g, h1, blk_below h2 hb⟩
def Tells (e : Ending) (p : Prop) : Prop := ∃ b, e = .returned (.bool b) ∧ (b = true ↔ p)
theorem tells_no {p : Prop} (h : ¬ p) : Tells (.returned (.bool false)) p := ⟨false, rfl, fun e => (by cases e), fun e => absurd e h⟩
theorem tells_yes {p : Prop} (h : p) : Tells (.returned (.bool true)) p := ⟨true, rfl, fun _ => h, fun _ => rfl⟩
def DpC (n : Nat) : Prop := ∀ (T T' : S28) (d d' : DT) (v v' : Value) (w : World) (ok ok' : Nat → Prop), TD n T d → TD n T' d' → DTIn w ok d v → DTIn w ok' d' v' → (∀ k, ok k → ok' k → False) →
 Calls Tryz.prog 73 #[v, v'] w fun e w' => Tells e (d = d') ∧ Below w.heap.size w w'
def TeC (n : Nat) : Prop := ∀ (T T' : S28) (d d' : DT) (v v' : Value) (w : World) (ok ok' : Nat → Prop) (A : Option Addr) (m : Nat), TD n T d → TD n T' d' → DTIn w ok d v → DTIn w ok' d' v' → (∀ k, ok k → ok' k → False) → OptAt w A m →
 Calls Tryz.prog 35 #[v, v', .slice A m m] w fun e w' => Tells e (d = d') ∧ Below w.heap.size w w'
theorem meta108 (w : World) : Calls Tryz.prog 108 #[.agg #[.slice none 0 0, .slice none 0 0], .agg #[.slice none 0 0, .slice none 0 0]] w fun e w' => e = .returned (.bool true) ∧ Below w.heap.size w w' := by
 go_enter Tryz.func108, Tryz.ntmps108
 go_wp2
 go_rounds 1
 go_wp2
 go_ret
 exact ⟨rfl, by repeat (first | exact Below.refl _ _ | assumption | apply b1_ | apply b2_ | apply b3_)⟩
def FdC (n : Nat) : Prop := ∀ (nm nm' : ByteArray) (b b' : Bool) (T T' : S28) (d d' : DT) (x x' : Value) (w : World) (ok ok' : Nat → Prop), TD n T d → TD n T' d' → DTIn w ok d x → DTIn w ok' d' x' → (∀ k, ok k → ok' k → False) →
 Calls Tryz.prog 106 #[.agg #[.string nm, x, .bool b, .slice none 0 0, .slice none 0 0], .agg #[.string nm', x', .bool b', .slice none 0 0, .slice none 0 0]] w fun e w' => Tells e (nm = nm' ∧ b = b' ∧ d = d') ∧ Below w.heap.size w w'
theorem fd106 (n : Nat) (hD : DpC n) : FdC n := by
 intro nm nm' b b' T T' d d' x x' w ok ok' hT hT' hI hI' hdis
 obtain ⟨q, a, rfl⟩ := hI.form
 obtain ⟨q', a', rfl⟩ := hI'.form
 obtain ⟨p, hp⟩ : ∃ p, p = Value.pointer (some a) := ⟨_, rfl⟩
 obtain ⟨p', hp'⟩ : ∃ p, p = Value.pointer (some a') := ⟨_, rfl⟩
 rw [← hp] at hI ⊢
 rw [← hp'] at hI' ⊢
 clear hp hp'
 have HC := Aside0.mk (And.intro hT (And.intro hT' (And.intro hI (And.intro hI' (And.intro hdis hD)))))
 clear hT hT' hI hI' hdis hD
 obtain ⟨P, hP⟩ : ∃ P : Prop, P = (nm = nm' ∧ b = b' ∧ d = d') := ⟨_, rfl⟩
 rw [← hP]
 have HP := Aside0.mk hP
 clear hP
 go_enter Tryz.func106, Tryz.ntmps106
 go_upto_region 1 with fail
 refine wp_at ?_
 intro w1 hw1
 have b1 : Below w.heap.size w w1 := by rw [hw1]; repeat (first | exact Below.refl _ _ | assumption | apply b1_ | apply b2_ | apply b3_)
 have k0 : w1.heap[w.heap.size]? = some (.cells #[.string nm, .iface q p, .bool b, .slice none 0 0, .slice none 0 0] 61 (0, 0)) := by rw [hw1]; exact blk_alloc_ (blk_new _ _)
 have k1 : w1.heap[w.heap.size + 1]? = some (.cells #[.string nm', .iface q' p', .bool b', .slice none 0 0, .slice none 0 0] 61 (0, 0)) := by rw [hw1]; exact blk_new_at (by rw [alloc_size_])
 clear hw1
 have c0 : w1.cell? ⟨w.heap.size, 0, none⟩ = some (.string nm) := (blk_cell k0 0).trans rfl
 have d0 : w1.cell? ⟨w.heap.size + 1, 0, none⟩ = some (.string nm') := (blk_cell k1 0).trans rfl
 have c1 : w1.cell? ⟨w.heap.size, 1, none⟩ = some (.iface q p) := (blk_cell k0 1).trans rfl
 have d1 : w1.cell? ⟨w.heap.size + 1, 1, none⟩ = some (.iface q' p') := (blk_cell k1 1).trans rfl
 have c2 : w1.cell? ⟨w.heap.size, 2, none⟩ = some (.bool b) := (blk_cell k0 2).trans rfl
 have d2 : w1.cell? ⟨w.heap.size + 1, 2, none⟩ = some (.bool b') := (blk_cell k1 2).trans rfl
 have c3 : w1.cell? ⟨w.heap.size, 3, none⟩ = some (.slice none 0 0) := (blk_cell k0 3).trans rfl
 have d3 : w1.cell? ⟨w.heap.size + 1, 3, none⟩ = some (.slice none 0 0) := (blk_cell k1 3).trans rfl
 have c4 : w1.cell? ⟨w.heap.size, 4, none⟩ = some (.slice none 0 0) := (blk_cell k0 4).trans rfl
 have d4 : w1.cell? ⟨w.heap.size + 1, 4, none⟩ = some (.slice none 0 0) := (blk_cell k1 4).trans rfl
 have HB := Aside0.mk (And.intro b1 (And.intro k0 k1))
 clear b1 k0 k1
 by_cases hn : nm = nm'
 rotate_left
 ·have qb : (nm.toList == nm'.toList) = false := by rw [beq_eq_false_iff_ne]; exact fun e => hn (toList_inj e)
  have HN := Aside0.mk hn
  clear hn
  go_wp2
  go_ret
  exact ⟨tells_no (fun h => by rw [HP.out] at h; exact HN.out h.1), HB.out.1⟩
 subst hn
 by_cases hb : b = b'
 rotate_left
 ·have HN := Aside0.mk hb
  have qb : (b == b') = false := by rw [beq_eq_false_iff_ne]; exact hb
  clear hb
  go_wp2
  go_ret
  exact ⟨tells_no (fun h => by rw [HP.out] at h; exact HN.out h.2.1), HB.out.1⟩
 subst hb
 go_wp2_with (go_at_call 73; fail)
 refine (HC.out.2.2.2.2.2 T T' d d' _ _ w1 ok ok' HC.out.1 HC.out.2.1 (HC.out.2.2.1.below HB.out.1) (HC.out.2.2.2.1.below HB.out.1) HC.out.2.2.2.2.1).mono ?_
 rintro e w2 ⟨⟨r, rfl, hr⟩, hb2⟩
 have HR := Aside0.mk hr
 have HB2 := Aside0.mk (And.intro (below_step HB.out.1 hb2) (And.intro (blk_below HB.out.2.1 hb2) (blk_below HB.out.2.2 hb2)))
 clear hr hb2
 clear c0 d0 c1 d1 c2 d2 c3 d3 c4 d4
 have c0 : w2.cell? ⟨w.heap.size, 0, none⟩ = some (.string nm) := (blk_cell HB2.out.2.1 0).trans rfl
 have d0 : w2.cell? ⟨w.heap.size + 1, 0, none⟩ = some (.string nm) := (blk_cell HB2.out.2.2 0).trans rfl
 have c1 : w2.cell? ⟨w.heap.size, 1, none⟩ = some (.iface q p) := (blk_cell HB2.out.2.1 1).trans rfl
 have d1 : w2.cell? ⟨w.heap.size + 1, 1, none⟩ = some (.iface q' p') := (blk_cell HB2.out.2.2 1).trans rfl
 have c2 : w2.cell? ⟨w.heap.size, 2, none⟩ = some (.bool b) := (blk_cell HB2.out.2.1 2).trans rfl
 have d2 : w2.cell? ⟨w.heap.size + 1, 2, none⟩ = some (.bool b) := (blk_cell HB2.out.2.2 2).trans rfl
 have c3 : w2.cell? ⟨w.heap.size, 3, none⟩ = some (.slice none 0 0) := (blk_cell HB2.out.2.1 3).trans rfl
 have d3 : w2.cell? ⟨w.heap.size + 1, 3, none⟩ = some (.slice none 0 0) := (blk_cell HB2.out.2.2 3).trans rfl
 have c4 : w2.cell? ⟨w.heap.size, 4, none⟩ = some (.slice none 0 0) := (blk_cell HB2.out.2.1 4).trans rfl
 have d4 : w2.cell? ⟨w.heap.size + 1, 4, none⟩ = some (.slice none 0 0) := (blk_cell HB2.out.2.2 4).trans rfl
 cases r with
 | false =>
  go_wp2
  go_ret
  exact ⟨tells_no (fun h => by rw [HP.out] at h; have := HR.out.2 h.2.2; simp at this), HB2.out.1⟩
 | true =>
  go_wp2_with (go_at_call 108; fail)
  refine (meta108 w2).mono ?_
  rintro e w3 ⟨rfl, hb3⟩
  have HB3 := Aside0.mk (below_step HB2.out.1 hb3)
  clear hb3
  clear c0 d0 c1 d1 c2 d2 c3 d3 c4 d4
  go_wp2
  go_ret
  exact ⟨tells_yes (by rw [HP.out]; exact ⟨by first | rfl | trivial, by first | rfl | trivial, HR.out.1 (by first | rfl | trivial)⟩), HB3.out⟩
def FsAt (w : World) (ok : Nat → Prop) (A : Option Addr) (fs : List DF) : Prop := 0 < fs.length → ∃ b, ∃ arr : Array Value, A = some ⟨b, 0, none⟩ ∧ ok b ∧ w.heap[b]? = some (.cells arr 61 (0, 0)) ∧ DFsIn w ok fs arr.toList
def CsAt (w : World) (ok : Nat → Prop) (A : Option Addr) (codes : List Int) : Prop := 0 < codes.length → ∃ b, ∃ arr : Array Value, A = some ⟨b, 0, none⟩ ∧ ok b ∧ w.heap[b]? = some (.cells arr 170 (0, 0)) ∧ ∀ (j : Nat) (x : Int), codes[j]? = some x → arr[j]? = some (Value.int .i8 x)
theorem dfs_at {W : World} {ok : Nat → Prop} : ∀ {fs : List DF} {l : List Value}, DFsIn W ok fs l → ∀ (j : Nat) (hj : j < fs.length), ∃ x, DTIn W ok fs[j].type x ∧ l[j * 5]? = some (.string fs[j].name) ∧ l[j * 5 + 1]? = some x ∧ l[j * 5 + 2]? = some (.bool fs[j].null) ∧ l[j * 5 + 3]? = some (.slice none 0 0) ∧ l[j * 5 + 4]? = some (.slice none 0 0)
 | [], _, _, j, hj => absurd hj (by simp)
 | f :: r, l, h, j, hj => by
  obtain ⟨c, rest, rfl, hf, hr⟩ := h
  obtain ⟨n, ty, b⟩ := f
  obtain ⟨x, rfl, hx⟩ := hf
  cases j with
  | zero => exact ⟨x, hx, rfl, rfl, rfl, rfl, rfl⟩
  | succ j =>
   obtain ⟨y, h0, h1, h2, h3, h4, h5⟩ := dfs_at hr j (by simpa using hj)
   refine ⟨y, h0, ?_, ?_, ?_, ?_, ?_⟩
   all_goals
    first
     | (rw [show (j + 1) * 5 = j * 5 + 5 from by omega]; exact h1)
     | (rw [show (j + 1) * 5 + 1 = (j * 5 + 1) + 5 from by omega]; exact h2)
     | (rw [show (j + 1) * 5 + 2 = (j * 5 + 2) + 5 from by omega]; exact h3)
     | (rw [show (j + 1) * 5 + 3 = (j * 5 + 3) + 5 from by omega]; exact h4)
     | (rw [show (j + 1) * 5 + 4 = (j * 5 + 4) + 5 from by omega]; exact h5)
theorem FsAt.get {w : World} {ok : Nat → Prop} {A : Option Addr} {fs : List DF} (h : FsAt w ok A fs) (j : Nat) (hj : j < fs.length) : ∃ b x, A = some ⟨b, 0, none⟩ ∧ DTIn w ok fs[j].type x ∧ w.cell? ⟨b, j * 5, none⟩ = some (.string fs[j].name) ∧ w.cell? ⟨b, j * 5 + 1, none⟩ = some x ∧ w.cell? ⟨b, j * 5 + 2, none⟩ = some (.bool fs[j].null) ∧ w.cell? ⟨b, j * 5 + 3, none⟩ = some (.slice none 0 0) ∧ w.cell? ⟨b, j * 5 + 4, none⟩ = some (.slice none 0 0) := by
 obtain ⟨b, arr, hA, _, hb, hr⟩ := h (by omega)
 obtain ⟨x, h0, h1, h2, h3, h4, h5⟩ := dfs_at hr j hj
 refine ⟨b, x, hA, h0, ?_, ?_, ?_, ?_, ?_⟩
 ·rw [blk_cell hb, ← h1, Array.getElem?_toList]
 ·rw [blk_cell hb, ← h2, Array.getElem?_toList]
 ·rw [blk_cell hb, ← h3, Array.getElem?_toList]
 ·rw [blk_cell hb, ← h4, Array.getElem?_toList]
 ·rw [blk_cell hb, ← h5, Array.getElem?_toList]
theorem FsAt.below {w w' : World} {ok : Nat → Prop} {A : Option Addr} {fs : List DF} (h : FsAt w ok A fs) (hb : Below w.heap.size w w') : FsAt w' ok A fs := fun h0 => by
 obtain ⟨b, arr, hA, hk, hg, hr⟩ := h h0
 exact ⟨b, arr, hA, hk, blk_below hg hb, DFsIn.step (fun k q cells hk' hlt _ hc => ⟨blk_below hc hb, hk'⟩) hr⟩
theorem CsAt.below {w w' : World} {ok : Nat → Prop} {A : Option Addr} {fs : List Int} (h : CsAt w ok A fs) (hb : Below w.heap.size w w') : CsAt w' ok A fs := fun h0 => by
 obtain ⟨b, arr, hA, hk, hg, hr⟩ := h h0
 exact ⟨b, arr, hA, hk, blk_below hg hb, hr⟩
theorem CsAt.get {w : World} {ok : Nat → Prop} {A : Option Addr} {cs : List Int} (h : CsAt w ok A cs) (j : Nat) (hj : j < cs.length) : ∃ b, A = some ⟨b, 0, none⟩ ∧ w.cell? ⟨b, j, none⟩ = some (.int .i8 cs[j]) := by
 obtain ⟨b, arr, hA, _, hb, hr⟩ := h (by omega)
 exact ⟨b, hA, by rw [blk_cell hb]; exact hr j _ (List.getElem?_eq_getElem hj)⟩
theorem fields107 (n : Nat) (hF : FdC n) (fs fs' : List DF) (A A' : Option Addr) (c c' : Nat) (w : World) (ok ok' : Nat → Prop) (hA : FsAt w ok A fs) (hA' : FsAt w ok' A' fs') (hl : fs.length ≤ 100) (hl' : fs'.length ≤ 100) (hT : ∀ f ∈ fs, ∃ T1, TD n T1 f.type) (hT' : ∀ f ∈ fs', ∃ T1, TD n T1 f.type) (hdis : ∀ k, ok k → ok' k → False) :
 Calls Tryz.prog 107 #[.slice A fs.length c, .slice A' fs'.length c'] w fun e w' => Tells e (fs = fs') ∧ Below w.heap.size w w' := by
 have HC := Aside0.mk (And.intro hA (And.intro hA' (And.intro hT (And.intro hT' (And.intro hdis hF)))))
 have HL := Aside0.mk (And.intro hl hl')
 clear hA hA' hT hT' hdis hF hl hl'
 go_enter Tryz.func107, Tryz.ntmps107
 by_cases he : fs.length = fs'.length
 rotate_left
 ·have hz : ¬ ((fs.length : Int) = (fs'.length : Int)) := by omega
  have q1 : decide ((fs.length : Int) = (fs'.length : Int)) = false := decide_eq_false hz
  have q2 : ((fs.length : Int) = (fs'.length : Int)) = False := eq_false hz
  have q3 : ((fs.length : Int) != (fs'.length : Int)) = true := by simpa using hz
  have q4 : (fs.length != fs'.length) = true := by simpa using he
  have HE := Aside0.mk he
  clear he hz
  go_wp2
  go_ret
  exact ⟨tells_no (fun h => HE.out (by rw [h])), Below.refl _ _⟩
 have HE := Aside0.mk he
 rw [← he]
 clear he
 go_wp2
 go_loopg [13] fs.length (fun kq v13 wr => ∃ i : Nat, v13 = .int .i64 (i : Int) ∧ Aside0 (i + kq = fs.length ∧ Below w.heap.size w wr ∧ ∀ (j : Nat) (hj : j < fs.length) (hj' : j < fs'.length), j < i → fs[j] = fs'[j]))
 case atStart => exact ⟨0, rfl, ⟨⟨by omega, Below.refl _ _, fun j hj hj' h => absurd h (by omega)⟩⟩⟩
 case round =>
  obtain ⟨i, rfl, HR⟩ := hrel
  by_cases hi : i < fs.length
  ·have hd : decide ((i : Int) < (fs.length : Int)) = true := by simpa using hi
   have hi' : i < fs'.length := by have := HE.out; omega
   have e1 : wrap64 ((i : Int) + 1) = ((i + 1 : Nat) : Int) := by have := HL.out.1; rw [w64_id _ (by omega) (by omega)]; omega
   have E1 := Aside0.mk e1
   clear e1
   obtain ⟨b, x, hA, hx, y0, y1, y2, y3, y4⟩ := (HC.out.1.below HR.out.2.1).get i hi
   obtain ⟨b', x', hA', hx', z0, z1, z2, z3, z4⟩ := (HC.out.2.1.below HR.out.2.1).get i hi'
   obtain ⟨T1, hT1⟩ := HC.out.2.2.1 _ (List.getElem_mem hi)
   obtain ⟨T2, hT2⟩ := HC.out.2.2.2.1 _ (List.getElem_mem hi')
   obtain ⟨q, a, rfl⟩ := hx.form
   obtain ⟨q', a', rfl⟩ := hx'.form
   obtain ⟨p, hp⟩ : ∃ p, p = Value.pointer (some a) := ⟨_, rfl⟩
   obtain ⟨p', hp'⟩ : ∃ p, p = Value.pointer (some a') := ⟨_, rfl⟩
   rw [← hp] at hx y1
   rw [← hp'] at hx' z1
   subst hA hA'
   have HX := Aside0.mk (And.intro hx (And.intro hx' (And.intro hT1 hT2)))
   have HI := Aside0.mk (And.intro hi hi')
   have qi : (i < fs.length) = True := eq_true hi
   have qi' : ((i : Int) < (fs.length : Int)) = True := eq_true (by omega)
   clear hp hp' hx hx' hT1 hT2
   go_upto_region 6 with fail
   refine start_ (n := 10) (S := fun w' => w'.cell? ⟨b, i * 5, none⟩ = some (.string fs[i].name) ∧ w'.cell? ⟨b, i * 5 + 1, none⟩ = some (.iface q p) ∧ w'.cell? ⟨b, i * 5 + 2, none⟩ = some (.bool fs[i].null) ∧ w'.cell? ⟨b, i * 5 + 3, none⟩ = some (.slice none 0 0) ∧ w'.cell? ⟨b, i * 5 + 4, none⟩ = some (.slice none 0 0) ∧ w'.cell? ⟨b', i * 5, none⟩ = some (.string fs'[i].name) ∧ w'.cell? ⟨b', i * 5 + 1, none⟩ = some (.iface q' p') ∧ w'.cell? ⟨b', i * 5 + 2, none⟩ = some (.bool fs'[i].null) ∧ w'.cell? ⟨b', i * 5 + 3, none⟩ = some (.slice none 0 0) ∧ w'.cell? ⟨b', i * 5 + 4, none⟩ = some (.slice none 0 0)) (ds := []) (ba 10 0) (by kernel_rfl) rfl rfl ⟨y0, y1, y2, y3, y4, z0, z1, z2, z3, z4⟩ (fun hHeld => ?_)
   generalize hw_ : wr.drew = u0 at hHeld ⊢
   have Hu0 := Aside0.mk (show Below wr.heap.size wr u0 from by rw [← hw_]; exact b3_ (Below.refl _ _))
   clear hw_
   clear y0 y1 y2 y3 y4 z0 z1 z2 z3 z4
   have Su0 := Aside0.mk hHeld
   refine pu 0 16 1 ?_
   refine pu 1 17 3 ?_
   refine pu 2 18 7 ?_
   refine ta 3 19 15 ?_
   refine pu 4 20 31 ?_
   refine pu 5 21 63 ?_
   refine pu 6 22 127 ?_
   refine ta 7 23 255 ?_
   refine one_ (i := 8) (N := some 24) (ba 10 511) rfl rfl (by kernel_rfl) (by decide) (fun K hK => ?_)
   refine goes_ Tryz.func106 (by kernel_rfl) rfl #[.agg #[.string fs[i].name, .iface q p, .bool fs[i].null, .slice none 0 0, .slice none 0 0], .agg #[.string fs'[i].name, .iface q' p', .bool fs'[i].null, .slice none 0 0, .slice none 0 0]] (by rfl) rfl rfl (by (try simp only [List.map_toArray, List.map_cons, List.map_nil]); first | done | rfl) ?_
   refine (HC.out.2.2.2.2.2 fs[i].name fs'[i].name fs[i].null fs'[i].null T1 T2 fs[i].type fs'[i].type _ _ u0 ok ok' HX.out.2.2.1 HX.out.2.2.2 (HX.out.1.below Hu0.out) (HX.out.2.1.below Hu0.out) HC.out.2.2.2.2.1).mono ?_
   rintro e u1 ⟨⟨r, rfl, hr⟩, hb⟩
   have Hu1 := Aside0.mk (below_step Hu0.out hb)
   have Su1 := Aside0.mk (show u1.cell? ⟨b, i * 5, none⟩ = some (.string fs[i].name) ∧ u1.cell? ⟨b, i * 5 + 1, none⟩ = some (.iface q p) ∧ u1.cell? ⟨b, i * 5 + 2, none⟩ = some (.bool fs[i].null) ∧ u1.cell? ⟨b, i * 5 + 3, none⟩ = some (.slice none 0 0) ∧ u1.cell? ⟨b, i * 5 + 4, none⟩ = some (.slice none 0 0) ∧ u1.cell? ⟨b', i * 5, none⟩ = some (.string fs'[i].name) ∧ u1.cell? ⟨b', i * 5 + 1, none⟩ = some (.iface q' p') ∧ u1.cell? ⟨b', i * 5 + 2, none⟩ = some (.bool fs'[i].null) ∧ u1.cell? ⟨b', i * 5 + 3, none⟩ = some (.slice none 0 0) ∧ u1.cell? ⟨b', i * 5 + 4, none⟩ = some (.slice none 0 0) from ⟨pw_cell_below hb Su0.out.1, pw_cell_below hb Su0.out.2.1, pw_cell_below hb Su0.out.2.2.1, pw_cell_below hb Su0.out.2.2.2.1, pw_cell_below hb Su0.out.2.2.2.2.1, pw_cell_below hb Su0.out.2.2.2.2.2.1, pw_cell_below hb Su0.out.2.2.2.2.2.2.1, pw_cell_below hb Su0.out.2.2.2.2.2.2.2.1, pw_cell_below hb Su0.out.2.2.2.2.2.2.2.2.1, pw_cell_below hb Su0.out.2.2.2.2.2.2.2.2.2⟩)
   have HRR := Aside0.mk hr
   clear hr
   clear hb
   refine ⟨_, rfl, ?_⟩
   refine hK.out _ _ Su1.out (fun hHeld => ?_)
   clear hK K
   refine no 24 ?_
   refine pu 9 25 1023 ?_
   refine done_ (by kernel_rfl) ?_
   clear hHeld
   have HW := Aside0.mk (below_step HR.out.2.1 Hu1.out)
   cases r with
   | false =>
    go_wp2
    go_ret
    exact ⟨tells_no (fun h => by
     have := HRR.out.2 (by
      have hh : fs[i]'HI.out.1 = fs'[i]'HI.out.2 := by simp only [h]
      rw [hh]; exact ⟨rfl, rfl, rfl⟩)
     simp at this), HW.out⟩
   | true =>
    go_wp2
    go_roundg (fs.length - (i + 1))
    case measure => have := HR.out.1; omega
    case rel =>
     refine ⟨i + 1, by first | (rw [E1.out]) | go_num, ⟨⟨by have := HR.out.1; omega, HW.out, fun j hj hj' hlt => ?_⟩⟩⟩
     by_cases hji : j < i
     ·exact HR.out.2.2 j hj hj' hji
     ·have e : j = i := by omega
      subst e
      obtain ⟨h1, h2, h3⟩ := HRR.out.1 (by first | rfl | trivial)
      generalize fs[j] = f at h1 h2 h3
      generalize fs'[j] = f' at h1 h2 h3
      cases f
      cases f'
      simp only [DF.name, DF.null, DF.type] at h1 h2 h3
      rw [h1, h2, h3]
  ·have hd : decide ((i : Int) < (fs.length : Int)) = false := by simpa using hi
   have HF := Aside0.mk (show fs = fs' from List.ext_getElem HE.out (fun j hj hj' => HR.out.2.2 j hj hj' (by omega)))
   go_wp2
   go_ret
   exact ⟨tells_yes HF.out, HR.out.2.1⟩
theorem codes109 (fs fs' : List Int) (A A' : Option Addr) (c c' : Nat) (w : World) (ok ok' : Nat → Prop) (hA : CsAt w ok A fs) (hA' : CsAt w ok' A' fs') (hl : fs.length ≤ 100) (hl' : fs'.length ≤ 100) :
 Calls Tryz.prog 109 #[.slice A fs.length c, .slice A' fs'.length c'] w fun e w' => Tells e (fs = fs') ∧ Below w.heap.size w w' := by
 have HC := Aside0.mk (And.intro hA hA')
 have HL := Aside0.mk (And.intro hl hl')
 clear hA hA' hl hl'
 go_enter Tryz.func109, Tryz.ntmps109
 by_cases he : fs.length = fs'.length
 rotate_left
 ·have hz : ¬ ((fs.length : Int) = (fs'.length : Int)) := by omega
  have q1 : decide ((fs.length : Int) = (fs'.length : Int)) = false := decide_eq_false hz
  have q2 : ((fs.length : Int) = (fs'.length : Int)) = False := eq_false hz
  have q3 : ((fs.length : Int) != (fs'.length : Int)) = true := by simpa using hz
  have q4 : (fs.length != fs'.length) = true := by simpa using he
  have HE := Aside0.mk he
  clear he hz
  go_wp2
  go_ret
  exact ⟨tells_no (fun h => HE.out (by rw [h])), Below.refl _ _⟩
 have HE := Aside0.mk he
 rw [← he]
 clear he
 go_wp2
 go_loopg [13] fs.length (fun kq v13 wr => ∃ i : Nat, v13 = .int .i64 (i : Int) ∧ Aside0 (i + kq = fs.length ∧ Below w.heap.size w wr ∧ ∀ (j : Nat) (hj : j < fs.length) (hj' : j < fs'.length), j < i → fs[j] = fs'[j]))
 case atStart => exact ⟨0, rfl, ⟨⟨by omega, Below.refl _ _, fun j hj hj' h => absurd h (by omega)⟩⟩⟩
 case round =>
  obtain ⟨i, rfl, HR⟩ := hrel
  by_cases hi : i < fs.length
  ·have hd : decide ((i : Int) < (fs.length : Int)) = true := by simpa using hi
   have hi' : i < fs'.length := by have := HE.out; omega
   have e1 : wrap64 ((i : Int) + 1) = ((i + 1 : Nat) : Int) := by have := HL.out.1; rw [w64_id _ (by omega) (by omega)]; omega
   have E1 := Aside0.mk e1
   clear e1
   obtain ⟨b, hA, y0⟩ := (HC.out.1.below HR.out.2.1).get i hi
   obtain ⟨b', hA', z0⟩ := (HC.out.2.below HR.out.2.1).get i hi'
   obtain ⟨u, hu⟩ : ∃ u, u = fs[i] := ⟨_, rfl⟩
   obtain ⟨u', hu'⟩ : ∃ u, u = fs'[i] := ⟨_, rfl⟩
   rw [← hu] at y0
   rw [← hu'] at z0
   subst hA hA'
   have HI := Aside0.mk (And.intro hi (And.intro hi' (And.intro hu hu')))
   have qi : (i < fs.length) = True := eq_true hi
   have qi' : ((i : Int) < (fs.length : Int)) = True := eq_true (by omega)
   clear hu hu'
   by_cases hc : u = u'
   rotate_left
   ·have HNE := Aside0.mk hc
    have q5 : (u != u') = true := by simpa using hc
    have q6 : decide (u = u') = false := decide_eq_false hc
    clear hc
    go_upto_region 6 with fail
    refine start_ (n := 9) (S := fun w' => w'.cell? ⟨b, i, none⟩ = some (.int .i8 u) ∧ w'.cell? ⟨b', i, none⟩ = some (.int .i8 u')) (ds := []) (ba 9 0) (by kernel_rfl) rfl rfl ⟨y0, z0⟩ (fun hHeld => ?_)
    generalize hw_ : wr.drew = u0 at hHeld ⊢
    have Hu0 := Aside0.mk (show Below wr.heap.size wr u0 from by rw [← hw_]; exact b3_ (Below.refl _ _))
    clear hw_
    clear y0 z0
    have Su0 := Aside0.mk hHeld
    refine pu 0 16 1 ?_
    refine pu 1 17 3 ?_
    refine pu 2 18 7 ?_
    refine ta 3 19 15 ?_
    refine pu 4 20 31 ?_
    refine pu 5 21 63 ?_
    refine pu 6 22 127 ?_
    refine ta 7 23 255 ?_
    refine pu 8 24 511 ?_
    refine done_ (by kernel_rfl) ?_
    clear hHeld
    have HW := Aside0.mk (below_step HR.out.2.1 Hu0.out)
    go_wp2
    go_ret
    exact ⟨tells_no (fun h => HNE.out (by rw [HI.out.2.2.1, HI.out.2.2.2]; simp only [h])), HW.out⟩
   have HEQ := Aside0.mk hc
   subst hc
   go_upto_region 6 with fail
   refine start_ (n := 9) (S := fun w' => w'.cell? ⟨b, i, none⟩ = some (.int .i8 u) ∧ w'.cell? ⟨b', i, none⟩ = some (.int .i8 u)) (ds := []) (ba 9 0) (by kernel_rfl) rfl rfl ⟨y0, z0⟩ (fun hHeld => ?_)
   generalize hw_ : wr.drew = u0 at hHeld ⊢
   have Hu0 := Aside0.mk (show Below wr.heap.size wr u0 from by rw [← hw_]; exact b3_ (Below.refl _ _))
   clear hw_
   clear y0 z0
   have Su0 := Aside0.mk hHeld
   refine pu 0 16 1 ?_
   refine pu 1 17 3 ?_
   refine pu 2 18 7 ?_
   refine ta 3 19 15 ?_
   refine pu 4 20 31 ?_
   refine pu 5 21 63 ?_
   refine pu 6 22 127 ?_
   refine ta 7 23 255 ?_
   refine pu 8 24 511 ?_
   refine done_ (by kernel_rfl) ?_
   clear hHeld
   have HW := Aside0.mk (below_step HR.out.2.1 Hu0.out)
   go_wp2
   go_roundg (fs.length - (i + 1))
   case measure => have := HR.out.1; omega
   case rel =>
    refine ⟨i + 1, by first | (rw [E1.out]) | go_num, ⟨⟨by have := HR.out.1; omega, HW.out, fun j hj hj' hlt => ?_⟩⟩⟩
    by_cases hji : j < i
    ·exact HR.out.2.2 j hj hj' hji
    ·have e : j = i := by omega
     subst e
     rw [← HI.out.2.2.1, ← HI.out.2.2.2]
  ·have hd : decide ((i : Int) < (fs.length : Int)) = false := by simpa using hi
   have HF := Aside0.mk (show fs = fs' from List.ext_getElem HE.out (fun j hj hj' => HR.out.2.2 j hj hj' (by omega)))
   go_wp2
   go_ret
   exact ⟨tells_yes HF.out, HR.out.2.1⟩
end Go.Proofs.YteebgnhhjlgnjaaGreatDoor.V
