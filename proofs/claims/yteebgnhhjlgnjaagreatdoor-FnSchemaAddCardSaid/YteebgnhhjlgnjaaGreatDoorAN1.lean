/- impl.arrowNested at lists. -/
import Derived.Test.YteebgnhhjlgnjaaGreatDoorMA
import Derived.Test.YteebgnhhjlgnjaaGreatDoorD0
import Derived.Test.YteebgnhhjlgnjaaGreatDoorAT1
namespace Go.Proofs.YteebgnhhjlgnjaaGreatDoor.V
open Go.RowKit Go.Proofs.YteebgnhhjlgnjaaGreatDoorW.PrintWords Go.Proofs.YteebgnhhjlgnjaaGreatDoorW.PrintLast Go.Proofs.YteebgnhhjlgnjaaGreatDoorW.PrintMore
set_option maxHeartbeats 40000000
set_option maxRecDepth 100000
set_option linter.unusedVariables false
set_option linter.unusedSimpArgs false
theorem nest_list154 (T : S28) (dT : DT) (A8 A9 : Option Addr) (c8 c9 : Nat) (w : World) (g9 : Kd.C k30 w A9 ([⟨nmItem, true, T, []⟩] : List S30).length ([⟨nmItem, true, T, []⟩] : List S30)) (hF : All2 MakesF ([⟨nmItem, true, T, []⟩] : List S30) ([DF.mk nmItem dT true] : List DF)) :
 Calls Tryz.prog 64 #[.agg #[.int .i64 12, .int .i64 0, .bool false, .int .i64 0, .int .i64 0, .int .i64 0, .string emp, .bool false, .slice A8 0 c8, .slice A9 1 c9]] w (Made w (.list 154 (.mk nmItem dT true))) := by
 have hlen := hF.length
 have hn30 : ([⟨nmItem, true, T, []⟩] : List S30).length < 2 ^ 30 := by first | (simp; done) | omega
 have HH := Aside0.mk (And.intro g9 (And.intro hF hlen))
 clear g9 hF hlen
 go_enter Tryz.func64, Tryz.ntmps64
 go_wp2_with (go_at_call 45; fail)
 refine calls_at ?_
 intro w0 hw0
 obtain ⟨g9, hF, hlen⟩ := HH.out
 have b0 : Below w.heap.size w w0 := by rw [hw0]; exact b1_ (Below.refl _ _) _
 have x0 : w0.heap[w.heap.size]? = some (.cells #[.int .i64 12, .int .i64 0, .bool false, .int .i64 0, .int .i64 0, .int .i64 0, .string emp, .bool false, .slice A8 0 c8, .slice A9 1 c9] 28 (0, 0)) := by rw [hw0]; exact blk_new _ _
 clear hw0
 refine (fields45 ([⟨nmItem, true, T, []⟩] : List S30) ([DF.mk nmItem dT true] : List DF) hF A9 c9 w0 (Kd.C_below g9 b0) hn30).mono ?_
 rintro e w1 ⟨v, rfl, hR, hb⟩
 obtain ⟨A, c, rfl, hlc, hAb, hrow⟩ := row_of_R hR
 have b1 := below_step b0 hb
 have x1 := blk_below x0 hb
 have HA := Aside0.mk (And.intro b1 (And.intro x1 (And.intro hlc (And.intro hAb (And.intro hrow (And.intro b0.size hlen))))))
 clear g9 hF hlen b0 x0 hR hb hlc hAb hrow b1 x1
 go_wp2
 go_loopg [17] ([DF.mk nmItem dT true] : List DF).length (fun kq v17 wr => ∃ i : Nat, v17 = .int .i64 (i : Int) ∧ Aside0 (i + kq = ([DF.mk nmItem dT true] : List DF).length ∧ Below w1.heap.size w1 wr))
 case atStart => exact ⟨0, rfl, ⟨⟨by omega, Below.refl _ _⟩⟩⟩
 case round =>
  obtain ⟨i, rfl, hL⟩ := hrel
  by_cases hi : i < ([DF.mk nmItem dT true] : List DF).length
  ·have hd : decide ((i : Int) < (([DF.mk nmItem dT true] : List DF).length : Int)) = true := by first | (simpa using hi) | (simp at hi ⊢; omega)
   have hd2 : decide ((i : Int) < (1 : Int)) = true := by first | exact hd | (simp at hi ⊢; omega)
   have hd3 : (i : Int) < (1 : Int) := by first | omega | (simp at hi ⊢; omega)
   obtain ⟨h1, h2, h3, h4, h5, h6⟩ := HA.out
   obtain ⟨b, arr, rfl, hb1, hb2, hb3, hb4⟩ := h5 (by omega)
   obtain ⟨ad, e, hr⟩ := rowAt_of hb2 hb3 hb4 (by omega)
   cases e
   obtain ⟨cs, hf, hcell⟩ := hr i hi
   generalize ([DF.mk nmItem dT true] : List DF)[i] = di at hf
   obtain ⟨nm, dt, nb⟩ := di
   obtain ⟨x, rfl, hx⟩ := hf
   obtain ⟨tq, ta, rfl⟩ := hx.form
   have hcl := fun j u hu => pw_cell_below hL.out.2 (hcell j u hu)
   have z0 : wr.cell? ⟨b, i * 5, none⟩ = some (.string nm) := by rw [← add_plain]; exact hcl 0 _ rfl
   have z1 : wr.cell? ⟨b, i * 5 + 1, none⟩ = some (.iface tq (.pointer (some ta))) := by rw [← add_plain]; exact hcl 1 _ rfl
   have z2 : wr.cell? ⟨b, i * 5 + 2, none⟩ = some (.bool nb) := by rw [← add_plain]; exact hcl 2 _ rfl
   have z3 : wr.cell? ⟨b, i * 5 + 3, none⟩ = some (.slice none 0 0) := by rw [← add_plain]; exact hcl 3 _ rfl
   have z4 : wr.cell? ⟨b, i * 5 + 4, none⟩ = some (.slice none 0 0) := by rw [← add_plain]; exact hcl 4 _ rfl
   clear h1 h2 h3 h4 h5 h6 hb1 hb2 hb3 hb4 hr hcell hcl hx
   go_wp2
   have l1 := hL.out.1
   go_roundg (([DF.mk nmItem dT true] : List DF).length - (i + 1))
   case measure => omega
   case rel => exact ⟨i + 1, by go_num, ⟨⟨by omega, b1_ hL.out.2 _⟩⟩⟩
  ·have hd : decide ((i : Int) < (([DF.mk nmItem dT true] : List DF).length : Int)) = false := by first | (simpa using hi) | (simp at hi ⊢; omega)
   have hd2 : decide ((i : Int) < (1 : Int)) = false := by first | exact hd | (simp at hi ⊢; omega)
   obtain ⟨h1, h2, h3, h4, h5, h6⟩ := HA.out
   have k1 := blk_below h2 hL.out.2
   have q0 := (blk_cell k1 0).trans (show _ = some (.int .i64 12 : Value) from rfl)
   have q1 := (blk_cell k1 1).trans (show _ = some (.int .i64 0 : Value) from rfl)
   have q2 := (blk_cell k1 2).trans (show _ = some (.bool false : Value) from rfl)
   have q3 := (blk_cell k1 3).trans (show _ = some (.int .i64 0 : Value) from rfl)
   have q4 := (blk_cell k1 4).trans (show _ = some (.int .i64 0 : Value) from rfl)
   have q5 := (blk_cell k1 5).trans (show _ = some (.int .i64 0 : Value) from rfl)
   have q6 := (blk_cell k1 6).trans (show _ = some (.string emp : Value) from rfl)
   have q7 := (blk_cell k1 7).trans (show _ = some (.bool false : Value) from rfl)
   have q8 := (blk_cell k1 8).trans (show _ = some (.slice A8 0 c8 : Value) from rfl)
   have q9 := (blk_cell k1 9).trans (show _ = some (.slice A9 1 c9 : Value) from rfl)
   have B1 := below_step h1 hL.out.2
   obtain ⟨b, arr, rfl, hb1, hb2, hb3, hb4⟩ := h5 (by simp)
   obtain ⟨ad, e, hr⟩ := rowAt_of hb2 hb3 hb4 (by simp)
   cases e
   obtain ⟨cs, ⟨x, rfl, hx⟩, hcell⟩ := hr 0 (by simp)
   obtain ⟨tq, ta, rfl⟩ := hx.form
   have hx1 := hx.below hL.out.2
   have hcl := fun j u hu => pw_cell_below hL.out.2 (hcell j u hu)
   have z0 : wr.cell? ⟨b, 0, none⟩ = some (.string nmItem) := by have := hcl 0 _ rfl; rwa [Nat.zero_mul, Nat.zero_add, add_plain] at this
   have z1 : wr.cell? ⟨b, 1, none⟩ = some (.iface tq (.pointer (some ta))) := by have := hcl 1 _ rfl; rwa [Nat.zero_mul, Nat.zero_add, add_plain] at this
   have z2 : wr.cell? ⟨b, 2, none⟩ = some (.bool true) := by have := hcl 2 _ rfl; rwa [Nat.zero_mul, Nat.zero_add, add_plain] at this
   have z3 : wr.cell? ⟨b, 3, none⟩ = some (.slice none 0 0) := by have := hcl 3 _ rfl; rwa [Nat.zero_mul, Nat.zero_add, add_plain] at this
   have z4 : wr.cell? ⟨b, 4, none⟩ = some (.slice none 0 0) := by have := hcl 4 _ rfl; rwa [Nat.zero_mul, Nat.zero_add, add_plain] at this
   have HE := Aside0.mk (And.intro B1 (And.intro hx1 h6.1))
   clear h1 h2 h3 h4 h5 h6 hb1 hb2 hb3 hb4 hr hcell hcl hx hx1 k1 B1
   go_wp2_with (go_at_call 89; fail)
   refine (of89 nmItem tq (.pointer (some ta)) true wr).mono ?_
   rintro e w5 ⟨g, rfl, hg1, hg2, hg3⟩
   have HG := Aside0.mk (And.intro hg1 (And.intro hg2 hg3))
   clear hg1 hg2 hg3
   go_wp2
   go_ret
   obtain ⟨B1, hx1, hz⟩ := HE.out
   obtain ⟨hg1, hg2, hg3⟩ := HG.out
   exact ⟨_, rfl, ⟨by decide, g, _, rfl, Nat.le_trans B1.size hg1, hg2, ⟨_, rfl, (hx1.mono (fun k hk => Nat.le_trans hz hk)).below hg3⟩⟩, below_step B1 hg3⟩
theorem nest_list233 (T : S28) (dT : DT) (A8 A9 : Option Addr) (c8 c9 : Nat) (w : World) (g9 : Kd.C k30 w A9 ([⟨nmItem, true, T, []⟩] : List S30).length ([⟨nmItem, true, T, []⟩] : List S30)) (hF : All2 MakesF ([⟨nmItem, true, T, []⟩] : List S30) ([DF.mk nmItem dT true] : List DF)) :
 Calls Tryz.prog 64 #[.agg #[.int .i64 21, .int .i64 0, .bool false, .int .i64 0, .int .i64 0, .int .i64 0, .string emp, .bool false, .slice A8 0 c8, .slice A9 1 c9]] w (Made w (.list 233 (.mk nmItem dT true))) := by
 have hlen := hF.length
 have hn30 : ([⟨nmItem, true, T, []⟩] : List S30).length < 2 ^ 30 := by first | (simp; done) | omega
 have HH := Aside0.mk (And.intro g9 (And.intro hF hlen))
 clear g9 hF hlen
 go_enter Tryz.func64, Tryz.ntmps64
 go_wp2_with (go_at_call 45; fail)
 refine calls_at ?_
 intro w0 hw0
 obtain ⟨g9, hF, hlen⟩ := HH.out
 have b0 : Below w.heap.size w w0 := by rw [hw0]; exact b1_ (Below.refl _ _) _
 have x0 : w0.heap[w.heap.size]? = some (.cells #[.int .i64 21, .int .i64 0, .bool false, .int .i64 0, .int .i64 0, .int .i64 0, .string emp, .bool false, .slice A8 0 c8, .slice A9 1 c9] 28 (0, 0)) := by rw [hw0]; exact blk_new _ _
 clear hw0
 refine (fields45 ([⟨nmItem, true, T, []⟩] : List S30) ([DF.mk nmItem dT true] : List DF) hF A9 c9 w0 (Kd.C_below g9 b0) hn30).mono ?_
 rintro e w1 ⟨v, rfl, hR, hb⟩
 obtain ⟨A, c, rfl, hlc, hAb, hrow⟩ := row_of_R hR
 have b1 := below_step b0 hb
 have x1 := blk_below x0 hb
 have HA := Aside0.mk (And.intro b1 (And.intro x1 (And.intro hlc (And.intro hAb (And.intro hrow (And.intro b0.size hlen))))))
 clear g9 hF hlen b0 x0 hR hb hlc hAb hrow b1 x1
 go_wp2
 go_loopg [17] ([DF.mk nmItem dT true] : List DF).length (fun kq v17 wr => ∃ i : Nat, v17 = .int .i64 (i : Int) ∧ Aside0 (i + kq = ([DF.mk nmItem dT true] : List DF).length ∧ Below w1.heap.size w1 wr))
 case atStart => exact ⟨0, rfl, ⟨⟨by omega, Below.refl _ _⟩⟩⟩
 case round =>
  obtain ⟨i, rfl, hL⟩ := hrel
  by_cases hi : i < ([DF.mk nmItem dT true] : List DF).length
  ·have hd : decide ((i : Int) < (([DF.mk nmItem dT true] : List DF).length : Int)) = true := by first | (simpa using hi) | (simp at hi ⊢; omega)
   have hd2 : decide ((i : Int) < (1 : Int)) = true := by first | exact hd | (simp at hi ⊢; omega)
   have hd3 : (i : Int) < (1 : Int) := by first | omega | (simp at hi ⊢; omega)
   obtain ⟨h1, h2, h3, h4, h5, h6⟩ := HA.out
   obtain ⟨b, arr, rfl, hb1, hb2, hb3, hb4⟩ := h5 (by omega)
   obtain ⟨ad, e, hr⟩ := rowAt_of hb2 hb3 hb4 (by omega)
   cases e
   obtain ⟨cs, hf, hcell⟩ := hr i hi
   generalize ([DF.mk nmItem dT true] : List DF)[i] = di at hf
   obtain ⟨nm, dt, nb⟩ := di
   obtain ⟨x, rfl, hx⟩ := hf
   obtain ⟨tq, ta, rfl⟩ := hx.form
   have hcl := fun j u hu => pw_cell_below hL.out.2 (hcell j u hu)
   have z0 : wr.cell? ⟨b, i * 5, none⟩ = some (.string nm) := by rw [← add_plain]; exact hcl 0 _ rfl
   have z1 : wr.cell? ⟨b, i * 5 + 1, none⟩ = some (.iface tq (.pointer (some ta))) := by rw [← add_plain]; exact hcl 1 _ rfl
   have z2 : wr.cell? ⟨b, i * 5 + 2, none⟩ = some (.bool nb) := by rw [← add_plain]; exact hcl 2 _ rfl
   have z3 : wr.cell? ⟨b, i * 5 + 3, none⟩ = some (.slice none 0 0) := by rw [← add_plain]; exact hcl 3 _ rfl
   have z4 : wr.cell? ⟨b, i * 5 + 4, none⟩ = some (.slice none 0 0) := by rw [← add_plain]; exact hcl 4 _ rfl
   clear h1 h2 h3 h4 h5 h6 hb1 hb2 hb3 hb4 hr hcell hcl hx
   go_wp2
   have l1 := hL.out.1
   go_roundg (([DF.mk nmItem dT true] : List DF).length - (i + 1))
   case measure => omega
   case rel => exact ⟨i + 1, by go_num, ⟨⟨by omega, b1_ hL.out.2 _⟩⟩⟩
  ·have hd : decide ((i : Int) < (([DF.mk nmItem dT true] : List DF).length : Int)) = false := by first | (simpa using hi) | (simp at hi ⊢; omega)
   have hd2 : decide ((i : Int) < (1 : Int)) = false := by first | exact hd | (simp at hi ⊢; omega)
   obtain ⟨h1, h2, h3, h4, h5, h6⟩ := HA.out
   have k1 := blk_below h2 hL.out.2
   have q0 := (blk_cell k1 0).trans (show _ = some (.int .i64 21 : Value) from rfl)
   have q1 := (blk_cell k1 1).trans (show _ = some (.int .i64 0 : Value) from rfl)
   have q2 := (blk_cell k1 2).trans (show _ = some (.bool false : Value) from rfl)
   have q3 := (blk_cell k1 3).trans (show _ = some (.int .i64 0 : Value) from rfl)
   have q4 := (blk_cell k1 4).trans (show _ = some (.int .i64 0 : Value) from rfl)
   have q5 := (blk_cell k1 5).trans (show _ = some (.int .i64 0 : Value) from rfl)
   have q6 := (blk_cell k1 6).trans (show _ = some (.string emp : Value) from rfl)
   have q7 := (blk_cell k1 7).trans (show _ = some (.bool false : Value) from rfl)
   have q8 := (blk_cell k1 8).trans (show _ = some (.slice A8 0 c8 : Value) from rfl)
   have q9 := (blk_cell k1 9).trans (show _ = some (.slice A9 1 c9 : Value) from rfl)
   have B1 := below_step h1 hL.out.2
   obtain ⟨b, arr, rfl, hb1, hb2, hb3, hb4⟩ := h5 (by simp)
   obtain ⟨ad, e, hr⟩ := rowAt_of hb2 hb3 hb4 (by simp)
   cases e
   obtain ⟨cs, ⟨x, rfl, hx⟩, hcell⟩ := hr 0 (by simp)
   obtain ⟨tq, ta, rfl⟩ := hx.form
   have hx1 := hx.below hL.out.2
   have hcl := fun j u hu => pw_cell_below hL.out.2 (hcell j u hu)
   have z0 : wr.cell? ⟨b, 0, none⟩ = some (.string nmItem) := by have := hcl 0 _ rfl; rwa [Nat.zero_mul, Nat.zero_add, add_plain] at this
   have z1 : wr.cell? ⟨b, 1, none⟩ = some (.iface tq (.pointer (some ta))) := by have := hcl 1 _ rfl; rwa [Nat.zero_mul, Nat.zero_add, add_plain] at this
   have z2 : wr.cell? ⟨b, 2, none⟩ = some (.bool true) := by have := hcl 2 _ rfl; rwa [Nat.zero_mul, Nat.zero_add, add_plain] at this
   have z3 : wr.cell? ⟨b, 3, none⟩ = some (.slice none 0 0) := by have := hcl 3 _ rfl; rwa [Nat.zero_mul, Nat.zero_add, add_plain] at this
   have z4 : wr.cell? ⟨b, 4, none⟩ = some (.slice none 0 0) := by have := hcl 4 _ rfl; rwa [Nat.zero_mul, Nat.zero_add, add_plain] at this
   have HE := Aside0.mk (And.intro B1 (And.intro hx1 h6.1))
   clear h1 h2 h3 h4 h5 h6 hb1 hb2 hb3 hb4 hr hcell hcl hx hx1 k1 B1
   go_wp2_with (go_at_call 90; fail)
   refine (of90 nmItem tq (.pointer (some ta)) true wr).mono ?_
   rintro e w5 ⟨g, rfl, hg1, hg2, hg3⟩
   have HG := Aside0.mk (And.intro hg1 (And.intro hg2 hg3))
   clear hg1 hg2 hg3
   go_wp2
   go_ret
   obtain ⟨B1, hx1, hz⟩ := HE.out
   obtain ⟨hg1, hg2, hg3⟩ := HG.out
   exact ⟨_, rfl, ⟨by decide, g, _, rfl, Nat.le_trans B1.size hg1, hg2, ⟨_, rfl, (hx1.mono (fun k hk => Nat.le_trans hz hk)).below hg3⟩⟩, below_step B1 hg3⟩
theorem nest_list180 (T : S28) (dT : DT) (A8 A9 : Option Addr) (c8 c9 : Nat) (w : World) (g9 : Kd.C k30 w A9 ([⟨nmItem, true, T, []⟩] : List S30).length ([⟨nmItem, true, T, []⟩] : List S30)) (hF : All2 MakesF ([⟨nmItem, true, T, []⟩] : List S30) ([DF.mk nmItem dT true] : List DF)) :
 Calls Tryz.prog 64 #[.agg #[.int .i64 25, .int .i64 0, .bool false, .int .i64 0, .int .i64 0, .int .i64 0, .string emp, .bool false, .slice A8 0 c8, .slice A9 1 c9]] w (Made w (.list 180 (.mk nmItem dT true))) := by
 have hlen := hF.length
 have hn30 : ([⟨nmItem, true, T, []⟩] : List S30).length < 2 ^ 30 := by first | (simp; done) | omega
 have HH := Aside0.mk (And.intro g9 (And.intro hF hlen))
 clear g9 hF hlen
 go_enter Tryz.func64, Tryz.ntmps64
 go_wp2_with (go_at_call 45; fail)
 refine calls_at ?_
 intro w0 hw0
 obtain ⟨g9, hF, hlen⟩ := HH.out
 have b0 : Below w.heap.size w w0 := by rw [hw0]; exact b1_ (Below.refl _ _) _
 have x0 : w0.heap[w.heap.size]? = some (.cells #[.int .i64 25, .int .i64 0, .bool false, .int .i64 0, .int .i64 0, .int .i64 0, .string emp, .bool false, .slice A8 0 c8, .slice A9 1 c9] 28 (0, 0)) := by rw [hw0]; exact blk_new _ _
 clear hw0
 refine (fields45 ([⟨nmItem, true, T, []⟩] : List S30) ([DF.mk nmItem dT true] : List DF) hF A9 c9 w0 (Kd.C_below g9 b0) hn30).mono ?_
 rintro e w1 ⟨v, rfl, hR, hb⟩
 obtain ⟨A, c, rfl, hlc, hAb, hrow⟩ := row_of_R hR
 have b1 := below_step b0 hb
 have x1 := blk_below x0 hb
 have HA := Aside0.mk (And.intro b1 (And.intro x1 (And.intro hlc (And.intro hAb (And.intro hrow (And.intro b0.size hlen))))))
 clear g9 hF hlen b0 x0 hR hb hlc hAb hrow b1 x1
 go_wp2
 go_loopg [17] ([DF.mk nmItem dT true] : List DF).length (fun kq v17 wr => ∃ i : Nat, v17 = .int .i64 (i : Int) ∧ Aside0 (i + kq = ([DF.mk nmItem dT true] : List DF).length ∧ Below w1.heap.size w1 wr))
 case atStart => exact ⟨0, rfl, ⟨⟨by omega, Below.refl _ _⟩⟩⟩
 case round =>
  obtain ⟨i, rfl, hL⟩ := hrel
  by_cases hi : i < ([DF.mk nmItem dT true] : List DF).length
  ·have hd : decide ((i : Int) < (([DF.mk nmItem dT true] : List DF).length : Int)) = true := by first | (simpa using hi) | (simp at hi ⊢; omega)
   have hd2 : decide ((i : Int) < (1 : Int)) = true := by first | exact hd | (simp at hi ⊢; omega)
   have hd3 : (i : Int) < (1 : Int) := by first | omega | (simp at hi ⊢; omega)
   obtain ⟨h1, h2, h3, h4, h5, h6⟩ := HA.out
   obtain ⟨b, arr, rfl, hb1, hb2, hb3, hb4⟩ := h5 (by omega)
   obtain ⟨ad, e, hr⟩ := rowAt_of hb2 hb3 hb4 (by omega)
   cases e
   obtain ⟨cs, hf, hcell⟩ := hr i hi
   generalize ([DF.mk nmItem dT true] : List DF)[i] = di at hf
   obtain ⟨nm, dt, nb⟩ := di
   obtain ⟨x, rfl, hx⟩ := hf
   obtain ⟨tq, ta, rfl⟩ := hx.form
   have hcl := fun j u hu => pw_cell_below hL.out.2 (hcell j u hu)
   have z0 : wr.cell? ⟨b, i * 5, none⟩ = some (.string nm) := by rw [← add_plain]; exact hcl 0 _ rfl
   have z1 : wr.cell? ⟨b, i * 5 + 1, none⟩ = some (.iface tq (.pointer (some ta))) := by rw [← add_plain]; exact hcl 1 _ rfl
   have z2 : wr.cell? ⟨b, i * 5 + 2, none⟩ = some (.bool nb) := by rw [← add_plain]; exact hcl 2 _ rfl
   have z3 : wr.cell? ⟨b, i * 5 + 3, none⟩ = some (.slice none 0 0) := by rw [← add_plain]; exact hcl 3 _ rfl
   have z4 : wr.cell? ⟨b, i * 5 + 4, none⟩ = some (.slice none 0 0) := by rw [← add_plain]; exact hcl 4 _ rfl
   clear h1 h2 h3 h4 h5 h6 hb1 hb2 hb3 hb4 hr hcell hcl hx
   go_wp2
   have l1 := hL.out.1
   go_roundg (([DF.mk nmItem dT true] : List DF).length - (i + 1))
   case measure => omega
   case rel => exact ⟨i + 1, by go_num, ⟨⟨by omega, b1_ hL.out.2 _⟩⟩⟩
  ·have hd : decide ((i : Int) < (([DF.mk nmItem dT true] : List DF).length : Int)) = false := by first | (simpa using hi) | (simp at hi ⊢; omega)
   have hd2 : decide ((i : Int) < (1 : Int)) = false := by first | exact hd | (simp at hi ⊢; omega)
   obtain ⟨h1, h2, h3, h4, h5, h6⟩ := HA.out
   have k1 := blk_below h2 hL.out.2
   have q0 := (blk_cell k1 0).trans (show _ = some (.int .i64 25 : Value) from rfl)
   have q1 := (blk_cell k1 1).trans (show _ = some (.int .i64 0 : Value) from rfl)
   have q2 := (blk_cell k1 2).trans (show _ = some (.bool false : Value) from rfl)
   have q3 := (blk_cell k1 3).trans (show _ = some (.int .i64 0 : Value) from rfl)
   have q4 := (blk_cell k1 4).trans (show _ = some (.int .i64 0 : Value) from rfl)
   have q5 := (blk_cell k1 5).trans (show _ = some (.int .i64 0 : Value) from rfl)
   have q6 := (blk_cell k1 6).trans (show _ = some (.string emp : Value) from rfl)
   have q7 := (blk_cell k1 7).trans (show _ = some (.bool false : Value) from rfl)
   have q8 := (blk_cell k1 8).trans (show _ = some (.slice A8 0 c8 : Value) from rfl)
   have q9 := (blk_cell k1 9).trans (show _ = some (.slice A9 1 c9 : Value) from rfl)
   have B1 := below_step h1 hL.out.2
   obtain ⟨b, arr, rfl, hb1, hb2, hb3, hb4⟩ := h5 (by simp)
   obtain ⟨ad, e, hr⟩ := rowAt_of hb2 hb3 hb4 (by simp)
   cases e
   obtain ⟨cs, ⟨x, rfl, hx⟩, hcell⟩ := hr 0 (by simp)
   obtain ⟨tq, ta, rfl⟩ := hx.form
   have hx1 := hx.below hL.out.2
   have hcl := fun j u hu => pw_cell_below hL.out.2 (hcell j u hu)
   have z0 : wr.cell? ⟨b, 0, none⟩ = some (.string nmItem) := by have := hcl 0 _ rfl; rwa [Nat.zero_mul, Nat.zero_add, add_plain] at this
   have z1 : wr.cell? ⟨b, 1, none⟩ = some (.iface tq (.pointer (some ta))) := by have := hcl 1 _ rfl; rwa [Nat.zero_mul, Nat.zero_add, add_plain] at this
   have z2 : wr.cell? ⟨b, 2, none⟩ = some (.bool true) := by have := hcl 2 _ rfl; rwa [Nat.zero_mul, Nat.zero_add, add_plain] at this
   have z3 : wr.cell? ⟨b, 3, none⟩ = some (.slice none 0 0) := by have := hcl 3 _ rfl; rwa [Nat.zero_mul, Nat.zero_add, add_plain] at this
   have z4 : wr.cell? ⟨b, 4, none⟩ = some (.slice none 0 0) := by have := hcl 4 _ rfl; rwa [Nat.zero_mul, Nat.zero_add, add_plain] at this
   have HE := Aside0.mk (And.intro B1 (And.intro hx1 h6.1))
   clear h1 h2 h3 h4 h5 h6 hb1 hb2 hb3 hb4 hr hcell hcl hx hx1 k1 B1
   go_wp2_with (go_at_call 91; fail)
   refine (of91 nmItem tq (.pointer (some ta)) true wr).mono ?_
   rintro e w5 ⟨g, rfl, hg1, hg2, hg3⟩
   have HG := Aside0.mk (And.intro hg1 (And.intro hg2 hg3))
   clear hg1 hg2 hg3
   go_wp2
   go_ret
   obtain ⟨B1, hx1, hz⟩ := HE.out
   obtain ⟨hg1, hg2, hg3⟩ := HG.out
   exact ⟨_, rfl, ⟨by decide, g, _, rfl, Nat.le_trans B1.size hg1, hg2, ⟨_, rfl, (hx1.mono (fun k hk => Nat.le_trans hz hk)).below hg3⟩⟩, below_step B1 hg3⟩
theorem nest_list236 (T : S28) (dT : DT) (A8 A9 : Option Addr) (c8 c9 : Nat) (w : World) (g9 : Kd.C k30 w A9 ([⟨nmItem, true, T, []⟩] : List S30).length ([⟨nmItem, true, T, []⟩] : List S30)) (hF : All2 MakesF ([⟨nmItem, true, T, []⟩] : List S30) ([DF.mk nmItem dT true] : List DF)) :
 Calls Tryz.prog 64 #[.agg #[.int .i64 26, .int .i64 0, .bool false, .int .i64 0, .int .i64 0, .int .i64 0, .string emp, .bool false, .slice A8 0 c8, .slice A9 1 c9]] w (Made w (.list 236 (.mk nmItem dT true))) := by
 have hlen := hF.length
 have hn30 : ([⟨nmItem, true, T, []⟩] : List S30).length < 2 ^ 30 := by first | (simp; done) | omega
 have HH := Aside0.mk (And.intro g9 (And.intro hF hlen))
 clear g9 hF hlen
 go_enter Tryz.func64, Tryz.ntmps64
 go_wp2_with (go_at_call 45; fail)
 refine calls_at ?_
 intro w0 hw0
 obtain ⟨g9, hF, hlen⟩ := HH.out
 have b0 : Below w.heap.size w w0 := by rw [hw0]; exact b1_ (Below.refl _ _) _
 have x0 : w0.heap[w.heap.size]? = some (.cells #[.int .i64 26, .int .i64 0, .bool false, .int .i64 0, .int .i64 0, .int .i64 0, .string emp, .bool false, .slice A8 0 c8, .slice A9 1 c9] 28 (0, 0)) := by rw [hw0]; exact blk_new _ _
 clear hw0
 refine (fields45 ([⟨nmItem, true, T, []⟩] : List S30) ([DF.mk nmItem dT true] : List DF) hF A9 c9 w0 (Kd.C_below g9 b0) hn30).mono ?_
 rintro e w1 ⟨v, rfl, hR, hb⟩
 obtain ⟨A, c, rfl, hlc, hAb, hrow⟩ := row_of_R hR
 have b1 := below_step b0 hb
 have x1 := blk_below x0 hb
 have HA := Aside0.mk (And.intro b1 (And.intro x1 (And.intro hlc (And.intro hAb (And.intro hrow (And.intro b0.size hlen))))))
 clear g9 hF hlen b0 x0 hR hb hlc hAb hrow b1 x1
 go_wp2
 go_loopg [17] ([DF.mk nmItem dT true] : List DF).length (fun kq v17 wr => ∃ i : Nat, v17 = .int .i64 (i : Int) ∧ Aside0 (i + kq = ([DF.mk nmItem dT true] : List DF).length ∧ Below w1.heap.size w1 wr))
 case atStart => exact ⟨0, rfl, ⟨⟨by omega, Below.refl _ _⟩⟩⟩
 case round =>
  obtain ⟨i, rfl, hL⟩ := hrel
  by_cases hi : i < ([DF.mk nmItem dT true] : List DF).length
  ·have hd : decide ((i : Int) < (([DF.mk nmItem dT true] : List DF).length : Int)) = true := by first | (simpa using hi) | (simp at hi ⊢; omega)
   have hd2 : decide ((i : Int) < (1 : Int)) = true := by first | exact hd | (simp at hi ⊢; omega)
   have hd3 : (i : Int) < (1 : Int) := by first | omega | (simp at hi ⊢; omega)
   obtain ⟨h1, h2, h3, h4, h5, h6⟩ := HA.out
   obtain ⟨b, arr, rfl, hb1, hb2, hb3, hb4⟩ := h5 (by omega)
   obtain ⟨ad, e, hr⟩ := rowAt_of hb2 hb3 hb4 (by omega)
   cases e
   obtain ⟨cs, hf, hcell⟩ := hr i hi
   generalize ([DF.mk nmItem dT true] : List DF)[i] = di at hf
   obtain ⟨nm, dt, nb⟩ := di
   obtain ⟨x, rfl, hx⟩ := hf
   obtain ⟨tq, ta, rfl⟩ := hx.form
   have hcl := fun j u hu => pw_cell_below hL.out.2 (hcell j u hu)
   have z0 : wr.cell? ⟨b, i * 5, none⟩ = some (.string nm) := by rw [← add_plain]; exact hcl 0 _ rfl
   have z1 : wr.cell? ⟨b, i * 5 + 1, none⟩ = some (.iface tq (.pointer (some ta))) := by rw [← add_plain]; exact hcl 1 _ rfl
   have z2 : wr.cell? ⟨b, i * 5 + 2, none⟩ = some (.bool nb) := by rw [← add_plain]; exact hcl 2 _ rfl
   have z3 : wr.cell? ⟨b, i * 5 + 3, none⟩ = some (.slice none 0 0) := by rw [← add_plain]; exact hcl 3 _ rfl
   have z4 : wr.cell? ⟨b, i * 5 + 4, none⟩ = some (.slice none 0 0) := by rw [← add_plain]; exact hcl 4 _ rfl
   clear h1 h2 h3 h4 h5 h6 hb1 hb2 hb3 hb4 hr hcell hcl hx
   go_wp2
   have l1 := hL.out.1
   go_roundg (([DF.mk nmItem dT true] : List DF).length - (i + 1))
   case measure => omega
   case rel => exact ⟨i + 1, by go_num, ⟨⟨by omega, b1_ hL.out.2 _⟩⟩⟩
  ·have hd : decide ((i : Int) < (([DF.mk nmItem dT true] : List DF).length : Int)) = false := by first | (simpa using hi) | (simp at hi ⊢; omega)
   have hd2 : decide ((i : Int) < (1 : Int)) = false := by first | exact hd | (simp at hi ⊢; omega)
   obtain ⟨h1, h2, h3, h4, h5, h6⟩ := HA.out
   have k1 := blk_below h2 hL.out.2
   have q0 := (blk_cell k1 0).trans (show _ = some (.int .i64 26 : Value) from rfl)
   have q1 := (blk_cell k1 1).trans (show _ = some (.int .i64 0 : Value) from rfl)
   have q2 := (blk_cell k1 2).trans (show _ = some (.bool false : Value) from rfl)
   have q3 := (blk_cell k1 3).trans (show _ = some (.int .i64 0 : Value) from rfl)
   have q4 := (blk_cell k1 4).trans (show _ = some (.int .i64 0 : Value) from rfl)
   have q5 := (blk_cell k1 5).trans (show _ = some (.int .i64 0 : Value) from rfl)
   have q6 := (blk_cell k1 6).trans (show _ = some (.string emp : Value) from rfl)
   have q7 := (blk_cell k1 7).trans (show _ = some (.bool false : Value) from rfl)
   have q8 := (blk_cell k1 8).trans (show _ = some (.slice A8 0 c8 : Value) from rfl)
   have q9 := (blk_cell k1 9).trans (show _ = some (.slice A9 1 c9 : Value) from rfl)
   have B1 := below_step h1 hL.out.2
   obtain ⟨b, arr, rfl, hb1, hb2, hb3, hb4⟩ := h5 (by simp)
   obtain ⟨ad, e, hr⟩ := rowAt_of hb2 hb3 hb4 (by simp)
   cases e
   obtain ⟨cs, ⟨x, rfl, hx⟩, hcell⟩ := hr 0 (by simp)
   obtain ⟨tq, ta, rfl⟩ := hx.form
   have hx1 := hx.below hL.out.2
   have hcl := fun j u hu => pw_cell_below hL.out.2 (hcell j u hu)
   have z0 : wr.cell? ⟨b, 0, none⟩ = some (.string nmItem) := by have := hcl 0 _ rfl; rwa [Nat.zero_mul, Nat.zero_add, add_plain] at this
   have z1 : wr.cell? ⟨b, 1, none⟩ = some (.iface tq (.pointer (some ta))) := by have := hcl 1 _ rfl; rwa [Nat.zero_mul, Nat.zero_add, add_plain] at this
   have z2 : wr.cell? ⟨b, 2, none⟩ = some (.bool true) := by have := hcl 2 _ rfl; rwa [Nat.zero_mul, Nat.zero_add, add_plain] at this
   have z3 : wr.cell? ⟨b, 3, none⟩ = some (.slice none 0 0) := by have := hcl 3 _ rfl; rwa [Nat.zero_mul, Nat.zero_add, add_plain] at this
   have z4 : wr.cell? ⟨b, 4, none⟩ = some (.slice none 0 0) := by have := hcl 4 _ rfl; rwa [Nat.zero_mul, Nat.zero_add, add_plain] at this
   have HE := Aside0.mk (And.intro B1 (And.intro hx1 h6.1))
   clear h1 h2 h3 h4 h5 h6 hb1 hb2 hb3 hb4 hr hcell hcl hx hx1 k1 B1
   go_wp2_with (go_at_call 92; fail)
   refine (of92 nmItem tq (.pointer (some ta)) true wr).mono ?_
   rintro e w5 ⟨g, rfl, hg1, hg2, hg3⟩
   have HG := Aside0.mk (And.intro hg1 (And.intro hg2 hg3))
   clear hg1 hg2 hg3
   go_wp2
   go_ret
   obtain ⟨B1, hx1, hz⟩ := HE.out
   obtain ⟨hg1, hg2, hg3⟩ := HG.out
   exact ⟨_, rfl, ⟨by decide, g, _, rfl, Nat.le_trans B1.size hg1, hg2, ⟨_, rfl, (hx1.mono (fun k hk => Nat.le_trans hz hk)).below hg3⟩⟩, below_step B1 hg3⟩
theorem nest_flist (T : S28) (dT : DT) (wd : Int) (hw1 : 1 ≤ wd) (hw2 : wd ≤ 1000) (A8 A9 : Option Addr) (c8 c9 : Nat) (w : World) (g9 : Kd.C k30 w A9 ([⟨nmItem, true, T, []⟩] : List S30).length ([⟨nmItem, true, T, []⟩] : List S30)) (hF : All2 MakesF ([⟨nmItem, true, T, []⟩] : List S30) ([DF.mk nmItem dT true] : List DF)) :
 Calls Tryz.prog 64 #[.agg #[.int .i64 16, .int .i64 wd, .bool false, .int .i64 0, .int .i64 0, .int .i64 0, .string emp, .bool false, .slice A8 0 c8, .slice A9 1 c9]] w (Made w (.flist wd (.mk nmItem dT true))) := by
 have e1 := i32_id wd (by omega) (by omega)
 have hlen := hF.length
 have hn30 : ([⟨nmItem, true, T, []⟩] : List S30).length < 2 ^ 30 := by first | (simp; done) | omega
 have HH := Aside0.mk (And.intro g9 (And.intro hF hlen))
 clear g9 hF hlen
 go_enter Tryz.func64, Tryz.ntmps64
 go_wp2_with (go_at_call 45; fail)
 refine calls_at ?_
 intro w0 hw0
 obtain ⟨g9, hF, hlen⟩ := HH.out
 have b0 : Below w.heap.size w w0 := by rw [hw0]; exact b1_ (Below.refl _ _) _
 have x0 : w0.heap[w.heap.size]? = some (.cells #[.int .i64 16, .int .i64 wd, .bool false, .int .i64 0, .int .i64 0, .int .i64 0, .string emp, .bool false, .slice A8 0 c8, .slice A9 1 c9] 28 (0, 0)) := by rw [hw0]; exact blk_new _ _
 clear hw0
 refine (fields45 ([⟨nmItem, true, T, []⟩] : List S30) ([DF.mk nmItem dT true] : List DF) hF A9 c9 w0 (Kd.C_below g9 b0) hn30).mono ?_
 rintro e w1 ⟨v, rfl, hR, hb⟩
 obtain ⟨A, c, rfl, hlc, hAb, hrow⟩ := row_of_R hR
 have b1 := below_step b0 hb
 have x1 := blk_below x0 hb
 have HA := Aside0.mk (And.intro b1 (And.intro x1 (And.intro hlc (And.intro hAb (And.intro hrow (And.intro b0.size hlen))))))
 clear g9 hF hlen b0 x0 hR hb hlc hAb hrow b1 x1
 go_wp2
 go_loopg [17] ([DF.mk nmItem dT true] : List DF).length (fun kq v17 wr => ∃ i : Nat, v17 = .int .i64 (i : Int) ∧ Aside0 (i + kq = ([DF.mk nmItem dT true] : List DF).length ∧ Below w1.heap.size w1 wr))
 case atStart => exact ⟨0, rfl, ⟨⟨by omega, Below.refl _ _⟩⟩⟩
 case round =>
  obtain ⟨i, rfl, hL⟩ := hrel
  by_cases hi : i < ([DF.mk nmItem dT true] : List DF).length
  ·have hd : decide ((i : Int) < (([DF.mk nmItem dT true] : List DF).length : Int)) = true := by first | (simpa using hi) | (simp at hi ⊢; omega)
   have hd2 : decide ((i : Int) < (1 : Int)) = true := by first | exact hd | (simp at hi ⊢; omega)
   have hd3 : (i : Int) < (1 : Int) := by first | omega | (simp at hi ⊢; omega)
   obtain ⟨h1, h2, h3, h4, h5, h6⟩ := HA.out
   obtain ⟨b, arr, rfl, hb1, hb2, hb3, hb4⟩ := h5 (by omega)
   obtain ⟨ad, e, hr⟩ := rowAt_of hb2 hb3 hb4 (by omega)
   cases e
   obtain ⟨cs, hf, hcell⟩ := hr i hi
   generalize ([DF.mk nmItem dT true] : List DF)[i] = di at hf
   obtain ⟨nm, dt, nb⟩ := di
   obtain ⟨x, rfl, hx⟩ := hf
   obtain ⟨tq, ta, rfl⟩ := hx.form
   have hcl := fun j u hu => pw_cell_below hL.out.2 (hcell j u hu)
   have z0 : wr.cell? ⟨b, i * 5, none⟩ = some (.string nm) := by rw [← add_plain]; exact hcl 0 _ rfl
   have z1 : wr.cell? ⟨b, i * 5 + 1, none⟩ = some (.iface tq (.pointer (some ta))) := by rw [← add_plain]; exact hcl 1 _ rfl
   have z2 : wr.cell? ⟨b, i * 5 + 2, none⟩ = some (.bool nb) := by rw [← add_plain]; exact hcl 2 _ rfl
   have z3 : wr.cell? ⟨b, i * 5 + 3, none⟩ = some (.slice none 0 0) := by rw [← add_plain]; exact hcl 3 _ rfl
   have z4 : wr.cell? ⟨b, i * 5 + 4, none⟩ = some (.slice none 0 0) := by rw [← add_plain]; exact hcl 4 _ rfl
   have hd4 : (i : Int) ≤ 1073741824 := by first | (have := h6.2; omega) | (simp at hi; omega)
   clear h1 h2 h3 h4 h5 h6 hb1 hb2 hb3 hb4 hr hcell hcl hx
   go_wp2
   have l1 := hL.out.1
   go_roundg (([DF.mk nmItem dT true] : List DF).length - (i + 1))
   case measure => omega
   case rel => exact ⟨i + 1, by go_num, ⟨⟨by omega, b1_ hL.out.2 _⟩⟩⟩
  ·have hd : decide ((i : Int) < (([DF.mk nmItem dT true] : List DF).length : Int)) = false := by first | (simpa using hi) | (simp at hi ⊢; omega)
   have hd2 : decide ((i : Int) < (1 : Int)) = false := by first | exact hd | (simp at hi ⊢; omega)
   obtain ⟨h1, h2, h3, h4, h5, h6⟩ := HA.out
   have k1 := blk_below h2 hL.out.2
   have q0 := (blk_cell k1 0).trans (show _ = some (.int .i64 16 : Value) from rfl)
   have q1 := (blk_cell k1 1).trans (show _ = some (.int .i64 wd : Value) from rfl)
   have q2 := (blk_cell k1 2).trans (show _ = some (.bool false : Value) from rfl)
   have q3 := (blk_cell k1 3).trans (show _ = some (.int .i64 0 : Value) from rfl)
   have q4 := (blk_cell k1 4).trans (show _ = some (.int .i64 0 : Value) from rfl)
   have q5 := (blk_cell k1 5).trans (show _ = some (.int .i64 0 : Value) from rfl)
   have q6 := (blk_cell k1 6).trans (show _ = some (.string emp : Value) from rfl)
   have q7 := (blk_cell k1 7).trans (show _ = some (.bool false : Value) from rfl)
   have q8 := (blk_cell k1 8).trans (show _ = some (.slice A8 0 c8 : Value) from rfl)
   have q9 := (blk_cell k1 9).trans (show _ = some (.slice A9 1 c9 : Value) from rfl)
   have B1 := below_step h1 hL.out.2
   obtain ⟨b, arr, rfl, hb1, hb2, hb3, hb4⟩ := h5 (by simp)
   obtain ⟨ad, e, hr⟩ := rowAt_of hb2 hb3 hb4 (by simp)
   cases e
   obtain ⟨cs, ⟨x, rfl, hx⟩, hcell⟩ := hr 0 (by simp)
   obtain ⟨tq, ta, rfl⟩ := hx.form
   have hx1 := hx.below hL.out.2
   have hcl := fun j u hu => pw_cell_below hL.out.2 (hcell j u hu)
   have z0 : wr.cell? ⟨b, 0, none⟩ = some (.string nmItem) := by have := hcl 0 _ rfl; rwa [Nat.zero_mul, Nat.zero_add, add_plain] at this
   have z1 : wr.cell? ⟨b, 1, none⟩ = some (.iface tq (.pointer (some ta))) := by have := hcl 1 _ rfl; rwa [Nat.zero_mul, Nat.zero_add, add_plain] at this
   have z2 : wr.cell? ⟨b, 2, none⟩ = some (.bool true) := by have := hcl 2 _ rfl; rwa [Nat.zero_mul, Nat.zero_add, add_plain] at this
   have z3 : wr.cell? ⟨b, 3, none⟩ = some (.slice none 0 0) := by have := hcl 3 _ rfl; rwa [Nat.zero_mul, Nat.zero_add, add_plain] at this
   have z4 : wr.cell? ⟨b, 4, none⟩ = some (.slice none 0 0) := by have := hcl 4 _ rfl; rwa [Nat.zero_mul, Nat.zero_add, add_plain] at this
   have HE := Aside0.mk (And.intro B1 (And.intro hx1 h6.1))
   clear h1 h2 h3 h4 h5 h6 hb1 hb2 hb3 hb4 hr hcell hcl hx hx1 k1 B1
   go_upto_region 38 with fail
   refine start_ (n := 9) (S := fun w' => w' = wr.drew) (ds := [6]) (ba 9 0) (by kernel_rfl) rfl rfl rfl (fun hHeld => ?_)
   refine pu 0 153 1 ?_
   refine take_ (i := 1) (N := some 154) (v := ?_) (a' := ?_) (ba 9 3) rfl rfl (by kernel_rfl) (fun _ _ _ h => h) (Or.inl ⟨by rfl, ?_⟩) hHeld ?_ ?_
   rotate_left
   ·intro w' s0
    subst s0
    go_simp
    with_reducible rfl
   rotate_left
   ·simp only [Act.put, s1_, s2_, s3_, i64_w, i32_w]
    rfl
   refine pu 2 155 7 ?_
   refine pu 3 156 15 ?_
   refine pu 4 157 31 ?_
   refine take_ (i := 5) (N := some 158) (v := ?_) (a' := ?_) (ba 9 63) rfl rfl (by kernel_rfl) (fun _ _ _ h => h) (Or.inl ⟨by rfl, ?_⟩) hHeld ?_ ?_
   rotate_left
   ·intro w' s0
    subst s0
    go_simp
    with_reducible rfl
   rotate_left
   ·simp only [Act.put, s1_, s2_, s3_, i64_w, i32_w]
    rfl
   refine last_ (i := 6) (N := some 159) (ba 9 127) rfl rfl (by kernel_rfl) (by decide) (fun K hK => ?_)
   refine goes_ Tryz.func93 (by kernel_rfl) rfl #[(.int .i32 wd), (.agg (fcs nmItem (.iface tq (.pointer (some ta))) true).toArray)] (by rfl) rfl rfl (by (try simp only [List.map_toArray, List.map_cons, List.map_nil]); rfl) ?_
   refine (of93 wd hw1 nmItem tq (.pointer (some ta)) true wr.drew).mono ?_
   rintro e w5 ⟨g, rfl, hg1, hg2, hg3⟩
   have HG := Aside0.mk (And.intro hg1 (And.intro hg2 hg3))
   clear hg1 hg2 hg3
   refine ⟨_, rfl, ?_⟩
   refine hK.out _ _ ?_
   clear hK K
   refine norm_ (a' := ?_) ?_ ?_
   rotate_left
   ·show Act.put _ (some 159) _ = _
    simp only [Act.put, s1_, s2_, s3_]
    rfl
   refine pu 7 160 255 ?_
   refine pu 8 2 511 ?_
   refine done_ (by kernel_rfl) ?_
   go_wp2
   go_ret
   obtain ⟨B1, hx1, hz⟩ := HE.out
   obtain ⟨hg1, hg2, hg3⟩ := HG.out
   exact ⟨_, rfl, ⟨g, _, rfl, Nat.le_trans B1.size hg1, hg2, ⟨_, rfl, (hx1.mono (fun k hk => Nat.le_trans hz hk)).below ⟨hg3.os, hg3.tape, hg3.output, hg3.size, hg3.block⟩⟩⟩, below_step B1 ⟨hg3.os, hg3.tape, hg3.output, hg3.size, hg3.block⟩⟩
theorem nest_struct (fs : List S30) (ds : List DF) (h0 : 0 < ds.length) (hl : fs.length ≤ 100) (hs : ∀ d ∈ ds, d.name.size ≤ maxLen) (A8 A9 : Option Addr) (c8 c9 : Nat) (w : World) (g9 : Kd.C k30 w A9 (fs).length (fs)) (hF : All2 MakesF (fs) (ds)) :
 Calls Tryz.prog 64 #[.agg #[.int .i64 13, .int .i64 0, .bool false, .int .i64 0, .int .i64 0, .int .i64 0, .string emp, .bool false, .slice A8 0 c8, .slice A9 fs.length c9]] w (Made w (.struct ds)) := by
 have HS := Aside0.mk (And.intro h0 hs)
 clear h0 hs
 have hlen := hF.length
 have hn30 : (fs).length < 2 ^ 30 := by first | (simp; done) | omega
 have HH := Aside0.mk (And.intro g9 (And.intro hF hlen))
 clear g9 hF hlen
 go_enter Tryz.func64, Tryz.ntmps64
 go_wp2_with (go_at_call 45; fail)
 refine calls_at ?_
 intro w0 hw0
 obtain ⟨g9, hF, hlen⟩ := HH.out
 have b0 : Below w.heap.size w w0 := by rw [hw0]; exact b1_ (Below.refl _ _) _
 have x0 : w0.heap[w.heap.size]? = some (.cells #[.int .i64 13, .int .i64 0, .bool false, .int .i64 0, .int .i64 0, .int .i64 0, .string emp, .bool false, .slice A8 0 c8, .slice A9 fs.length c9] 28 (0, 0)) := by rw [hw0]; exact blk_new _ _
 clear hw0
 refine (fields45 (fs) (ds) hF A9 c9 w0 (Kd.C_below g9 b0) hn30).mono ?_
 rintro e w1 ⟨v, rfl, hR, hb⟩
 obtain ⟨A, c, rfl, hlc, hAb, hrow⟩ := row_of_R hR
 have b1 := below_step b0 hb
 have x1 := blk_below x0 hb
 have HA := Aside0.mk (And.intro b1 (And.intro x1 (And.intro hlc (And.intro hAb (And.intro hrow (And.intro b0.size hlen))))))
 clear g9 hF hlen b0 x0 hR hb hlc hAb hrow b1 x1
 go_wp2
 go_loopg [17] (ds).length (fun kq v17 wr => ∃ i : Nat, v17 = .int .i64 (i : Int) ∧ Aside0 (i + kq = (ds).length ∧ Below w1.heap.size w1 wr))
 case atStart => exact ⟨0, rfl, ⟨⟨by omega, Below.refl _ _⟩⟩⟩
 case round =>
  obtain ⟨i, rfl, hL⟩ := hrel
  by_cases hi : i < (ds).length
  ·have hd : decide ((i : Int) < ((ds).length : Int)) = true := by first | (simpa using hi) | (simp at hi ⊢; omega)
   have hd2 : decide ((i : Int) < (ds.length : Int)) = true := by first | exact hd | (simp at hi ⊢; omega)
   have hd3 : (i : Int) < (ds.length : Int) := by first | omega | (simp at hi ⊢; omega)
   obtain ⟨h1, h2, h3, h4, h5, h6⟩ := HA.out
   obtain ⟨b, arr, rfl, hb1, hb2, hb3, hb4⟩ := h5 (by omega)
   obtain ⟨ad, e, hr⟩ := rowAt_of hb2 hb3 hb4 (by omega)
   cases e
   obtain ⟨cs, hf, hcell⟩ := hr i hi
   generalize (ds)[i] = di at hf
   obtain ⟨nm, dt, nb⟩ := di
   obtain ⟨x, rfl, hx⟩ := hf
   obtain ⟨tq, ta, rfl⟩ := hx.form
   have hcl := fun j u hu => pw_cell_below hL.out.2 (hcell j u hu)
   have z0 : wr.cell? ⟨b, i * 5, none⟩ = some (.string nm) := by rw [← add_plain]; exact hcl 0 _ rfl
   have z1 : wr.cell? ⟨b, i * 5 + 1, none⟩ = some (.iface tq (.pointer (some ta))) := by rw [← add_plain]; exact hcl 1 _ rfl
   have z2 : wr.cell? ⟨b, i * 5 + 2, none⟩ = some (.bool nb) := by rw [← add_plain]; exact hcl 2 _ rfl
   have z3 : wr.cell? ⟨b, i * 5 + 3, none⟩ = some (.slice none 0 0) := by rw [← add_plain]; exact hcl 3 _ rfl
   have z4 : wr.cell? ⟨b, i * 5 + 4, none⟩ = some (.slice none 0 0) := by rw [← add_plain]; exact hcl 4 _ rfl
   have hd4 : (i : Int) ≤ 1073741824 := by first | (have := h6.2; omega) | (simp at hi; omega)
   clear h1 h2 h3 h4 h5 h6 hb1 hb2 hb3 hb4 hr hcell hcl hx
   go_wp2
   have l1 := hL.out.1
   go_roundg ((ds).length - (i + 1))
   case measure => omega
   case rel => exact ⟨i + 1, by go_num, ⟨⟨by omega, b1_ hL.out.2 _⟩⟩⟩
  ·have hd : decide ((i : Int) < ((ds).length : Int)) = false := by first | (simpa using hi) | (simp at hi ⊢; omega)
   have hd2 : decide ((i : Int) < (ds.length : Int)) = false := by first | exact hd | (simp at hi ⊢; omega)
   obtain ⟨h1, h2, h3, h4, h5, h6⟩ := HA.out
   have k1 := blk_below h2 hL.out.2
   have q0 := (blk_cell k1 0).trans (show _ = some (.int .i64 13 : Value) from rfl)
   have q1 := (blk_cell k1 1).trans (show _ = some (.int .i64 0 : Value) from rfl)
   have q2 := (blk_cell k1 2).trans (show _ = some (.bool false : Value) from rfl)
   have q3 := (blk_cell k1 3).trans (show _ = some (.int .i64 0 : Value) from rfl)
   have q4 := (blk_cell k1 4).trans (show _ = some (.int .i64 0 : Value) from rfl)
   have q5 := (blk_cell k1 5).trans (show _ = some (.int .i64 0 : Value) from rfl)
   have q6 := (blk_cell k1 6).trans (show _ = some (.string emp : Value) from rfl)
   have q7 := (blk_cell k1 7).trans (show _ = some (.bool false : Value) from rfl)
   have q8 := (blk_cell k1 8).trans (show _ = some (.slice A8 0 c8 : Value) from rfl)
   have q9 := (blk_cell k1 9).trans (show _ = some (.slice A9 fs.length c9 : Value) from rfl)
   have B1 := below_step h1 hL.out.2
   obtain ⟨h0, hs⟩ := HS.out
   obtain ⟨b, arr, rfl, hb1, hb2, hb3, hb4⟩ := h5 h0
   have hr := rowAt_of hb2 hb3 hb4
   have HE := Aside0.mk (And.intro B1 (And.intro (hr.below hL.out.2) (And.intro h6.1 (And.intro h0 hs))))
   have hm : ∀ (k : Nat), (w0.heap.size ≤ k ∧ k < w1.heap.size) → k < wr.heap.size := fun k hk => Nat.lt_of_lt_of_le hk.2 hL.out.2.size
   have hr2 : RowAt wr (fun k => w0.heap.size ≤ k ∧ k < w1.heap.size) (some ⟨b, 0, none⟩) ds := fun hp => by
    obtain ⟨ad, e, hq⟩ := hr hp
    refine ⟨ad, e, fun j hj => ?_⟩
    obtain ⟨cs, hf, hcell⟩ := hq j hj
    exact ⟨cs, DFIn.step (fun k q cells hk hl _ hc => ⟨(hL.out.2.block k hl).trans hc, hk, hl⟩) hf, fun i u hu => pw_cell_below hL.out.2 (hcell i u hu)⟩
   have HM := Aside0.mk (And.intro hm hr2)
   have hls : ds.length < 2 ^ 30 := by have := h6.2; omega
   clear h1 h2 h3 h4 h5 h6 hb1 hb2 hb3 hb4 hr k1 B1 hm hr2 h0 hs
   go_wp2_with (go_at_call 85; fail)
   refine (struct85 ds HE.out.2.2.2.1 hls HE.out.2.2.2.2 _ _ _ wr HM.out.1 HM.out.2).mono ?_
   rintro e w5 ⟨g, F, M, rfl, hg1, hg2, hF, hg4, hg5⟩
   have HG := Aside0.mk (And.intro hg1 (And.intro hg2 (And.intro hF (And.intro hg4 hg5))))
   clear hg1 hg2 hF hg4 hg5
   go_wp2
   go_ret
   obtain ⟨B1, _, hz, _⟩ := HE.out
   obtain ⟨hg1, hg2, hF, hg4, hg5⟩ := HG.out
   exact ⟨_, rfl, struct_in hls hg2 hg4 (fun k hk => Nat.le_trans hz hk.1) (Nat.le_trans B1.size hg1) (Nat.le_trans B1.size hF), below_step B1 hg5⟩
theorem struct85z (A : Option Addr) (c : Nat) (w : World) : Calls Tryz.prog 85 #[.slice A 0 c] w (NewAt w [.slice none 0 0, .map none, .slice none 0 0, .slice none 0 0] 167) := by
 go_enter Tryz.func85, Tryz.ntmps85
 go_wp2
 go_ret
 exact ⟨_, rfl, by simp, blk_new_at (by simp), bl⟩
theorem nest_struct0 (A8 A9 : Option Addr) (c8 c9 : Nat) (w : World) (g9 : Kd.C k30 w A9 ([] : List S30).length ([] : List S30)) (hF : All2 MakesF ([] : List S30) ([] : List DF)) :
 Calls Tryz.prog 64 #[.agg #[.int .i64 13, .int .i64 0, .bool false, .int .i64 0, .int .i64 0, .int .i64 0, .string emp, .bool false, .slice A8 0 c8, .slice A9 0 c9]] w (Made w (.struct [])) := by
 have hlen := hF.length
 have hn30 : ([] : List S30).length < 2 ^ 30 := by first | (simp; done) | omega
 have HH := Aside0.mk (And.intro g9 (And.intro hF hlen))
 clear g9 hF hlen
 go_enter Tryz.func64, Tryz.ntmps64
 go_wp2_with (go_at_call 45; fail)
 refine calls_at ?_
 intro w0 hw0
 obtain ⟨g9, hF, hlen⟩ := HH.out
 have b0 : Below w.heap.size w w0 := by rw [hw0]; exact b1_ (Below.refl _ _) _
 have x0 : w0.heap[w.heap.size]? = some (.cells #[.int .i64 13, .int .i64 0, .bool false, .int .i64 0, .int .i64 0, .int .i64 0, .string emp, .bool false, .slice A8 0 c8, .slice A9 0 c9] 28 (0, 0)) := by rw [hw0]; exact blk_new _ _
 clear hw0
 refine (fields45 ([] : List S30) ([] : List DF) hF A9 c9 w0 (Kd.C_below g9 b0) hn30).mono ?_
 rintro e w1 ⟨v, rfl, hR, hb⟩
 obtain ⟨A, c, rfl, hlc, hAb, hrow⟩ := row_of_R hR
 have b1 := below_step b0 hb
 have x1 := blk_below x0 hb
 have HA := Aside0.mk (And.intro b1 (And.intro x1 (And.intro hlc (And.intro hAb (And.intro hrow (And.intro b0.size hlen))))))
 clear g9 hF hlen b0 x0 hR hb hlc hAb hrow b1 x1
 go_wp2
 go_loopg [17] 0 (fun kq v17 wr => ∃ i : Nat, v17 = .int .i64 (i : Int) ∧ Aside0 (i + kq = 0 ∧ Below w1.heap.size w1 wr))
 case atStart => exact ⟨0, rfl, ⟨⟨by omega, Below.refl _ _⟩⟩⟩
 case round =>
  obtain ⟨i, rfl, hL⟩ := hrel
  by_cases hi : i < 0
  ·exact absurd hi (by omega)
  ·have hi0 : i = 0 := by have := hL.out.1; omega
   subst hi0
   obtain ⟨h1, h2, h3, h4, h5, h6⟩ := HA.out
   have k1 := blk_below h2 hL.out.2
   have q0 := (blk_cell k1 0).trans (show _ = some (.int .i64 13 : Value) from rfl)
   have q1 := (blk_cell k1 1).trans (show _ = some (.int .i64 0 : Value) from rfl)
   have q2 := (blk_cell k1 2).trans (show _ = some (.bool false : Value) from rfl)
   have q3 := (blk_cell k1 3).trans (show _ = some (.int .i64 0 : Value) from rfl)
   have q4 := (blk_cell k1 4).trans (show _ = some (.int .i64 0 : Value) from rfl)
   have q5 := (blk_cell k1 5).trans (show _ = some (.int .i64 0 : Value) from rfl)
   have q6 := (blk_cell k1 6).trans (show _ = some (.string emp : Value) from rfl)
   have q7 := (blk_cell k1 7).trans (show _ = some (.bool false : Value) from rfl)
   have q8 := (blk_cell k1 8).trans (show _ = some (.slice A8 0 c8 : Value) from rfl)
   have q9 := (blk_cell k1 9).trans (show _ = some (.slice A9 0 c9 : Value) from rfl)
   have B1 := below_step h1 hL.out.2
   have HE := Aside0.mk (And.intro B1 h6.1)
   clear h1 h2 h3 h4 h5 h6 k1 B1
   go_wp2_with (go_at_call 85; fail)
   refine (struct85z _ _ wr).mono ?_
   rintro e w5 ⟨g, rfl, hg1, hg2, hg3⟩
   have HG := Aside0.mk (And.intro hg1 (And.intro hg2 hg3))
   clear hg1 hg2 hg3
   go_wp2
   go_ret
   obtain ⟨B1, hz⟩ := HE.out
   obtain ⟨hg1, hg2, hg3⟩ := HG.out
   exact ⟨_, rfl, ⟨g, none, 0, none, rfl, Nat.le_trans B1.size hg1, hg2, Nat.le_refl _, by simp, fun h => absurd h (by simp)⟩, below_step B1 hg3⟩
end Go.Proofs.YteebgnhhjlgnjaaGreatDoor.V
