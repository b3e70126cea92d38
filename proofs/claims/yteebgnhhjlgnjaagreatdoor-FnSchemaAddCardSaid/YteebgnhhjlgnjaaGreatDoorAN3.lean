/- impl.arrowNested at dictionaries and run ends. -/
import Derived.Test.YteebgnhhjlgnjaaGreatDoorD0
import Derived.Test.YteebgnhhjlgnjaaGreatDoorMA
namespace Go.Proofs.YteebgnhhjlgnjaaGreatDoor.V
open Go.RowKit Go.Proofs.YteebgnhhjlgnjaaGreatDoorW.PrintWords Go.Proofs.YteebgnhhjlgnjaaGreatDoorW.PrintLast Go.Proofs.YteebgnhhjlgnjaaGreatDoorW.PrintMore
set_option maxHeartbeats 40000000
set_option maxRecDepth 100000
set_option linter.unusedVariables false
set_option linter.unusedSimpArgs false
theorem nest_dict (I V : S28) (di dv : DT) (fl : Bool) (A8 A9 : Option Addr) (c8 c9 : Nat) (w : World) (g9 : Kd.C k30 w A9 ([⟨emp, false, I, []⟩, ⟨emp, false, V, []⟩] : List S30).length ([⟨emp, false, I, []⟩, ⟨emp, false, V, []⟩] : List S30)) (hF : All2 MakesF ([⟨emp, false, I, []⟩, ⟨emp, false, V, []⟩] : List S30) ([DF.mk emp di false, DF.mk emp dv false] : List DF)) :
 Calls Tryz.prog 64 #[.agg #[.int .i64 27, .int .i64 0, .bool false, .int .i64 0, .int .i64 0, .int .i64 0, .string emp, .bool fl, .slice A8 0 c8, .slice A9 2 c9]] w (Made w (.dict di dv fl)) := by
 have hlen := hF.length
 have hn30 : ([⟨emp, false, I, []⟩, ⟨emp, false, V, []⟩] : List S30).length < 2 ^ 30 := by first | (simp; done) | omega
 have HH := Aside0.mk (And.intro g9 (And.intro hF hlen))
 clear g9 hF hlen
 go_enter Tryz.func64, Tryz.ntmps64
 go_wp2_with (go_at_call 45; fail)
 refine calls_at ?_
 intro w0 hw0
 obtain ⟨g9, hF, hlen⟩ := HH.out
 have b0 : Below w.heap.size w w0 := by rw [hw0]; exact b1_ (Below.refl _ _) _
 have x0 : w0.heap[w.heap.size]? = some (.cells #[.int .i64 27, .int .i64 0, .bool false, .int .i64 0, .int .i64 0, .int .i64 0, .string emp, .bool fl, .slice A8 0 c8, .slice A9 2 c9] 28 (0, 0)) := by rw [hw0]; exact blk_new _ _
 clear hw0
 refine (fields45 ([⟨emp, false, I, []⟩, ⟨emp, false, V, []⟩] : List S30) ([DF.mk emp di false, DF.mk emp dv false] : List DF) hF A9 c9 w0 (Kd.C_below g9 b0) hn30).mono ?_
 rintro e w1 ⟨v, rfl, hR, hb⟩
 obtain ⟨A, c, rfl, hlc, hAb, hrow⟩ := row_of_R hR
 have b1 := below_step b0 hb
 have x1 := blk_below x0 hb
 have HA := Aside0.mk (And.intro b1 (And.intro x1 (And.intro hlc (And.intro hAb (And.intro hrow (And.intro b0.size hlen))))))
 clear g9 hF hlen b0 x0 hR hb hlc hAb hrow b1 x1
 go_wp2
 go_loopg [17] ([DF.mk emp di false, DF.mk emp dv false] : List DF).length (fun kq v17 wr => ∃ i : Nat, v17 = .int .i64 (i : Int) ∧ Aside0 (i + kq = ([DF.mk emp di false, DF.mk emp dv false] : List DF).length ∧ Below w1.heap.size w1 wr))
 case atStart => exact ⟨0, rfl, ⟨⟨by omega, Below.refl _ _⟩⟩⟩
 case round =>
  obtain ⟨i, rfl, hL⟩ := hrel
  by_cases hi : i < ([DF.mk emp di false, DF.mk emp dv false] : List DF).length
  ·have hd : decide ((i : Int) < (([DF.mk emp di false, DF.mk emp dv false] : List DF).length : Int)) = true := by first | (simpa using hi) | (simp at hi ⊢; omega)
   have hd2 : decide ((i : Int) < (2 : Int)) = true := by first | exact hd | (simp at hi ⊢; omega)
   have hd3 : (i : Int) < (2 : Int) := by first | omega | (simp at hi ⊢; omega)
   obtain ⟨h1, h2, h3, h4, h5, h6⟩ := HA.out
   obtain ⟨b, arr, rfl, hb1, hb2, hb3, hb4⟩ := h5 (by omega)
   obtain ⟨ad, e, hr⟩ := rowAt_of hb2 hb3 hb4 (by omega)
   cases e
   obtain ⟨cs, hf, hcell⟩ := hr i hi
   generalize ([DF.mk emp di false, DF.mk emp dv false] : List DF)[i] = di at hf
   obtain ⟨nm, dt, nb⟩ := di
   obtain ⟨x, rfl, hx⟩ := hf
   obtain ⟨tq, ta, rfl⟩ := hx.form
   have hcl := fun j u hu => pw_cell_below hL.out.2 (hcell j u hu)
   have z0 : wr.cell? ⟨b, i * 5, none⟩ = some (.string nm) := by rw [← add_plain]; exact hcl 0 _ rfl
   have z1 : wr.cell? ⟨b, i * 5 + 1, none⟩ = some (.iface tq (.pointer (some ta))) := by rw [← add_plain]; exact hcl 1 _ rfl
   have z2 : wr.cell? ⟨b, i * 5 + 2, none⟩ = some (.bool nb) := by rw [← add_plain]; exact hcl 2 _ rfl
   have z3 : wr.cell? ⟨b, i * 5 + 3, none⟩ = some (.slice none 0 0) := by rw [← add_plain]; exact hcl 3 _ rfl
   have z4 : wr.cell? ⟨b, i * 5 + 4, none⟩ = some (.slice none 0 0) := by rw [← add_plain]; exact hcl 4 _ rfl
   have hd4 : (i : Int) ≤ 1073741824 := by first | (have := h6.2; omega) | (simp at hi; omega)
   clear h1 h2 h3 h4 h5 h6 hb1 hb2 hb3 hb4 hr hcell hcl hx
   go_wp2
   have l1 := hL.out.1
   go_roundg (([DF.mk emp di false, DF.mk emp dv false] : List DF).length - (i + 1))
   case measure => omega
   case rel => exact ⟨i + 1, by go_num, ⟨⟨by omega, b1_ hL.out.2 _⟩⟩⟩
  ·have hd : decide ((i : Int) < (([DF.mk emp di false, DF.mk emp dv false] : List DF).length : Int)) = false := by first | (simpa using hi) | (simp at hi ⊢; omega)
   have hd2 : decide ((i : Int) < (2 : Int)) = false := by first | exact hd | (simp at hi ⊢; omega)
   obtain ⟨h1, h2, h3, h4, h5, h6⟩ := HA.out
   have k1 := blk_below h2 hL.out.2
   have q0 := (blk_cell k1 0).trans (show _ = some (.int .i64 27 : Value) from rfl)
   have q1 := (blk_cell k1 1).trans (show _ = some (.int .i64 0 : Value) from rfl)
   have q2 := (blk_cell k1 2).trans (show _ = some (.bool false : Value) from rfl)
   have q3 := (blk_cell k1 3).trans (show _ = some (.int .i64 0 : Value) from rfl)
   have q4 := (blk_cell k1 4).trans (show _ = some (.int .i64 0 : Value) from rfl)
   have q5 := (blk_cell k1 5).trans (show _ = some (.int .i64 0 : Value) from rfl)
   have q6 := (blk_cell k1 6).trans (show _ = some (.string emp : Value) from rfl)
   have q7 := (blk_cell k1 7).trans (show _ = some (.bool fl : Value) from rfl)
   have q8 := (blk_cell k1 8).trans (show _ = some (.slice A8 0 c8 : Value) from rfl)
   have q9 := (blk_cell k1 9).trans (show _ = some (.slice A9 2 c9 : Value) from rfl)
   have B1 := below_step h1 hL.out.2
   obtain ⟨b, arr, rfl, hb1, hb2, hb3, hb4⟩ := h5 (by simp)
   obtain ⟨ad, e, hr⟩ := rowAt_of hb2 hb3 hb4 (by simp)
   cases e
   obtain ⟨cs, ⟨x, rfl, hx⟩, hcell⟩ := hr 0 (by simp)
   obtain ⟨tq, ta, rfl⟩ := hx.form
   obtain ⟨cs', ⟨x', rfl, hx'⟩, hcell'⟩ := hr 1 (by simp)
   obtain ⟨tq', ta', rfl⟩ := hx'.form
   have hx1 := hx.below hL.out.2
   have hx2 := hx'.below hL.out.2
   have hcl := fun j u hu => pw_cell_below hL.out.2 (hcell j u hu)
   have hcl' := fun j u hu => pw_cell_below hL.out.2 (hcell' j u hu)
   have z0 : wr.cell? ⟨b, 0, none⟩ = some (.string emp) := by have := hcl 0 _ rfl; rwa [Nat.zero_mul, Nat.zero_add, add_plain] at this
   have z1 : wr.cell? ⟨b, 1, none⟩ = some (.iface tq (.pointer (some ta))) := by have := hcl 1 _ rfl; rwa [Nat.zero_mul, Nat.zero_add, add_plain] at this
   have z2 : wr.cell? ⟨b, 2, none⟩ = some (.bool false) := by have := hcl 2 _ rfl; rwa [Nat.zero_mul, Nat.zero_add, add_plain] at this
   have z3 : wr.cell? ⟨b, 3, none⟩ = some (.slice none 0 0) := by have := hcl 3 _ rfl; rwa [Nat.zero_mul, Nat.zero_add, add_plain] at this
   have z4 : wr.cell? ⟨b, 4, none⟩ = some (.slice none 0 0) := by have := hcl 4 _ rfl; rwa [Nat.zero_mul, Nat.zero_add, add_plain] at this
   have z5 : wr.cell? ⟨b, 5, none⟩ = some (.string emp) := by have := hcl' 0 _ rfl; rwa [show 1 * 5 + 0 = 5 by omega, add_plain] at this
   have z6 : wr.cell? ⟨b, 6, none⟩ = some (.iface tq' (.pointer (some ta'))) := by have := hcl' 1 _ rfl; rwa [show 1 * 5 + 1 = 6 by omega, add_plain] at this
   have z7 : wr.cell? ⟨b, 7, none⟩ = some (.bool false) := by have := hcl' 2 _ rfl; rwa [show 1 * 5 + 2 = 7 by omega, add_plain] at this
   have z8 : wr.cell? ⟨b, 8, none⟩ = some (.slice none 0 0) := by have := hcl' 3 _ rfl; rwa [show 1 * 5 + 3 = 8 by omega, add_plain] at this
   have z9 : wr.cell? ⟨b, 9, none⟩ = some (.slice none 0 0) := by have := hcl' 4 _ rfl; rwa [show 1 * 5 + 4 = 9 by omega, add_plain] at this
   have HE := Aside0.mk (And.intro B1 (And.intro hx1 (And.intro hx2 h6.1)))
   clear h1 h2 h3 h4 h5 h6 hb1 hb2 hb3 hb4 hr hcell hcl hcell' hcl' hx hx1 hx' hx2 k1 B1
   go_wp2
   go_region
   go_wp2
   go_ret
   obtain ⟨B1, hx1, hx2, hz⟩ := HE.out
   have bb : Below wr.heap.size wr (wr.alloc (.cells #[.iface tq (.pointer (some ta)), .iface tq' (.pointer (some ta')), .bool fl] 231)).drew := b3_ (b1_ (Below.refl _ _) _)
   exact ⟨_, rfl, ⟨_, _, _, rfl, B1.size, blk_drew_ (blk_new_at rfl), (hx1.mono (fun k hk => Nat.le_trans hz hk)).below bb, (hx2.mono (fun k hk => Nat.le_trans hz hk)).below bb⟩, b3_ (b1_ B1 _)⟩
theorem nest_ree (I V : S28) (di dv : DT) (A8 A9 : Option Addr) (c8 c9 : Nat) (w : World) (g9 : Kd.C k30 w A9 ([⟨nmRunEnds, false, I, []⟩, ⟨nmValues, true, V, []⟩] : List S30).length ([⟨nmRunEnds, false, I, []⟩, ⟨nmValues, true, V, []⟩] : List S30)) (hF : All2 MakesF ([⟨nmRunEnds, false, I, []⟩, ⟨nmValues, true, V, []⟩] : List S30) ([DF.mk nmRunEnds di false, DF.mk nmValues dv true] : List DF)) :
 Calls Tryz.prog 64 #[.agg #[.int .i64 22, .int .i64 0, .bool false, .int .i64 0, .int .i64 0, .int .i64 0, .string emp, .bool false, .slice A8 0 c8, .slice A9 2 c9]] w (Made w (.ree di dv true)) := by
 have hlen := hF.length
 have hn30 : ([⟨nmRunEnds, false, I, []⟩, ⟨nmValues, true, V, []⟩] : List S30).length < 2 ^ 30 := by first | (simp; done) | omega
 have HH := Aside0.mk (And.intro g9 (And.intro hF hlen))
 clear g9 hF hlen
 go_enter Tryz.func64, Tryz.ntmps64
 go_wp2_with (go_at_call 45; fail)
 refine calls_at ?_
 intro w0 hw0
 obtain ⟨g9, hF, hlen⟩ := HH.out
 have b0 : Below w.heap.size w w0 := by rw [hw0]; exact b1_ (Below.refl _ _) _
 have x0 : w0.heap[w.heap.size]? = some (.cells #[.int .i64 22, .int .i64 0, .bool false, .int .i64 0, .int .i64 0, .int .i64 0, .string emp, .bool false, .slice A8 0 c8, .slice A9 2 c9] 28 (0, 0)) := by rw [hw0]; exact blk_new _ _
 clear hw0
 refine (fields45 ([⟨nmRunEnds, false, I, []⟩, ⟨nmValues, true, V, []⟩] : List S30) ([DF.mk nmRunEnds di false, DF.mk nmValues dv true] : List DF) hF A9 c9 w0 (Kd.C_below g9 b0) hn30).mono ?_
 rintro e w1 ⟨v, rfl, hR, hb⟩
 obtain ⟨A, c, rfl, hlc, hAb, hrow⟩ := row_of_R hR
 have b1 := below_step b0 hb
 have x1 := blk_below x0 hb
 have HA := Aside0.mk (And.intro b1 (And.intro x1 (And.intro hlc (And.intro hAb (And.intro hrow (And.intro b0.size hlen))))))
 clear g9 hF hlen b0 x0 hR hb hlc hAb hrow b1 x1
 go_wp2
 go_loopg [17] ([DF.mk nmRunEnds di false, DF.mk nmValues dv true] : List DF).length (fun kq v17 wr => ∃ i : Nat, v17 = .int .i64 (i : Int) ∧ Aside0 (i + kq = ([DF.mk nmRunEnds di false, DF.mk nmValues dv true] : List DF).length ∧ Below w1.heap.size w1 wr))
 case atStart => exact ⟨0, rfl, ⟨⟨by omega, Below.refl _ _⟩⟩⟩
 case round =>
  obtain ⟨i, rfl, hL⟩ := hrel
  by_cases hi : i < ([DF.mk nmRunEnds di false, DF.mk nmValues dv true] : List DF).length
  ·have hd : decide ((i : Int) < (([DF.mk nmRunEnds di false, DF.mk nmValues dv true] : List DF).length : Int)) = true := by first | (simpa using hi) | (simp at hi ⊢; omega)
   have hd2 : decide ((i : Int) < (2 : Int)) = true := by first | exact hd | (simp at hi ⊢; omega)
   have hd3 : (i : Int) < (2 : Int) := by first | omega | (simp at hi ⊢; omega)
   obtain ⟨h1, h2, h3, h4, h5, h6⟩ := HA.out
   obtain ⟨b, arr, rfl, hb1, hb2, hb3, hb4⟩ := h5 (by omega)
   obtain ⟨ad, e, hr⟩ := rowAt_of hb2 hb3 hb4 (by omega)
   cases e
   obtain ⟨cs, hf, hcell⟩ := hr i hi
   generalize ([DF.mk nmRunEnds di false, DF.mk nmValues dv true] : List DF)[i] = di at hf
   obtain ⟨nm, dt, nb⟩ := di
   obtain ⟨x, rfl, hx⟩ := hf
   obtain ⟨tq, ta, rfl⟩ := hx.form
   have hcl := fun j u hu => pw_cell_below hL.out.2 (hcell j u hu)
   have z0 : wr.cell? ⟨b, i * 5, none⟩ = some (.string nm) := by rw [← add_plain]; exact hcl 0 _ rfl
   have z1 : wr.cell? ⟨b, i * 5 + 1, none⟩ = some (.iface tq (.pointer (some ta))) := by rw [← add_plain]; exact hcl 1 _ rfl
   have z2 : wr.cell? ⟨b, i * 5 + 2, none⟩ = some (.bool nb) := by rw [← add_plain]; exact hcl 2 _ rfl
   have z3 : wr.cell? ⟨b, i * 5 + 3, none⟩ = some (.slice none 0 0) := by rw [← add_plain]; exact hcl 3 _ rfl
   have z4 : wr.cell? ⟨b, i * 5 + 4, none⟩ = some (.slice none 0 0) := by rw [← add_plain]; exact hcl 4 _ rfl
   have hd4 : (i : Int) ≤ 1073741824 := by first | (have := h6.2; omega) | (simp at hi; omega)
   clear h1 h2 h3 h4 h5 h6 hb1 hb2 hb3 hb4 hr hcell hcl hx
   go_wp2
   have l1 := hL.out.1
   go_roundg (([DF.mk nmRunEnds di false, DF.mk nmValues dv true] : List DF).length - (i + 1))
   case measure => omega
   case rel => exact ⟨i + 1, by go_num, ⟨⟨by omega, b1_ hL.out.2 _⟩⟩⟩
  ·have hd : decide ((i : Int) < (([DF.mk nmRunEnds di false, DF.mk nmValues dv true] : List DF).length : Int)) = false := by first | (simpa using hi) | (simp at hi ⊢; omega)
   have hd2 : decide ((i : Int) < (2 : Int)) = false := by first | exact hd | (simp at hi ⊢; omega)
   obtain ⟨h1, h2, h3, h4, h5, h6⟩ := HA.out
   have k1 := blk_below h2 hL.out.2
   have q0 := (blk_cell k1 0).trans (show _ = some (.int .i64 22 : Value) from rfl)
   have q1 := (blk_cell k1 1).trans (show _ = some (.int .i64 0 : Value) from rfl)
   have q2 := (blk_cell k1 2).trans (show _ = some (.bool false : Value) from rfl)
   have q3 := (blk_cell k1 3).trans (show _ = some (.int .i64 0 : Value) from rfl)
   have q4 := (blk_cell k1 4).trans (show _ = some (.int .i64 0 : Value) from rfl)
   have q5 := (blk_cell k1 5).trans (show _ = some (.int .i64 0 : Value) from rfl)
   have q6 := (blk_cell k1 6).trans (show _ = some (.string emp : Value) from rfl)
   have q7 := (blk_cell k1 7).trans (show _ = some (.bool false : Value) from rfl)
   have q8 := (blk_cell k1 8).trans (show _ = some (.slice A8 0 c8 : Value) from rfl)
   have q9 := (blk_cell k1 9).trans (show _ = some (.slice A9 2 c9 : Value) from rfl)
   have B1 := below_step h1 hL.out.2
   obtain ⟨b, arr, rfl, hb1, hb2, hb3, hb4⟩ := h5 (by simp)
   obtain ⟨ad, e, hr⟩ := rowAt_of hb2 hb3 hb4 (by simp)
   cases e
   obtain ⟨cs, ⟨x, rfl, hx⟩, hcell⟩ := hr 0 (by simp)
   obtain ⟨tq, ta, rfl⟩ := hx.form
   obtain ⟨cs', ⟨x', rfl, hx'⟩, hcell'⟩ := hr 1 (by simp)
   obtain ⟨tq', ta', rfl⟩ := hx'.form
   have hx1 := hx.below hL.out.2
   have hx2 := hx'.below hL.out.2
   have hcl := fun j u hu => pw_cell_below hL.out.2 (hcell j u hu)
   have hcl' := fun j u hu => pw_cell_below hL.out.2 (hcell' j u hu)
   have z0 : wr.cell? ⟨b, 0, none⟩ = some (.string nmRunEnds) := by have := hcl 0 _ rfl; rwa [Nat.zero_mul, Nat.zero_add, add_plain] at this
   have z1 : wr.cell? ⟨b, 1, none⟩ = some (.iface tq (.pointer (some ta))) := by have := hcl 1 _ rfl; rwa [Nat.zero_mul, Nat.zero_add, add_plain] at this
   have z2 : wr.cell? ⟨b, 2, none⟩ = some (.bool false) := by have := hcl 2 _ rfl; rwa [Nat.zero_mul, Nat.zero_add, add_plain] at this
   have z3 : wr.cell? ⟨b, 3, none⟩ = some (.slice none 0 0) := by have := hcl 3 _ rfl; rwa [Nat.zero_mul, Nat.zero_add, add_plain] at this
   have z4 : wr.cell? ⟨b, 4, none⟩ = some (.slice none 0 0) := by have := hcl 4 _ rfl; rwa [Nat.zero_mul, Nat.zero_add, add_plain] at this
   have z5 : wr.cell? ⟨b, 5, none⟩ = some (.string nmValues) := by have := hcl' 0 _ rfl; rwa [show 1 * 5 + 0 = 5 by omega, add_plain] at this
   have z6 : wr.cell? ⟨b, 6, none⟩ = some (.iface tq' (.pointer (some ta'))) := by have := hcl' 1 _ rfl; rwa [show 1 * 5 + 1 = 6 by omega, add_plain] at this
   have z7 : wr.cell? ⟨b, 7, none⟩ = some (.bool true) := by have := hcl' 2 _ rfl; rwa [show 1 * 5 + 2 = 7 by omega, add_plain] at this
   have z8 : wr.cell? ⟨b, 8, none⟩ = some (.slice none 0 0) := by have := hcl' 3 _ rfl; rwa [show 1 * 5 + 3 = 8 by omega, add_plain] at this
   have z9 : wr.cell? ⟨b, 9, none⟩ = some (.slice none 0 0) := by have := hcl' 4 _ rfl; rwa [show 1 * 5 + 4 = 9 by omega, add_plain] at this
   have HE := Aside0.mk (And.intro B1 (And.intro hx1 (And.intro hx2 h6.1)))
   clear h1 h2 h3 h4 h5 h6 hb1 hb2 hb3 hb4 hr hcell hcl hcell' hcl' hx hx1 hx' hx2 k1 B1
   go_upto_region 21 with fail
   refine start_ (n := 10) (S := fun w' => w' = wr.drew) (ds := [8]) (ba 10 0) (by kernel_rfl) rfl rfl rfl (fun hHeld => ?_)
   refine pu 0 77 1 ?_
   refine pu 1 78 3 ?_
   refine pu 2 79 7 ?_
   refine take_ (i := 3) (N := some 80) (v := ?_) (a' := ?_) (ba 10 15) rfl rfl (by kernel_rfl) (fun _ _ _ h => h) (Or.inl ⟨by rfl, ?_⟩) hHeld ?_ ?_
   rotate_left
   ·intro w' s0
    subst s0
    go_simp
    with_reducible rfl
   rotate_left
   ·simp only [Act.put, s1_, s2_, s3_, i64_w, i32_w]
    rfl
   refine pu 4 81 31 ?_
   refine pu 5 82 63 ?_
   refine pu 6 83 127 ?_
   refine take_ (i := 7) (N := some 84) (v := ?_) (a' := ?_) (ba 10 255) rfl rfl (by kernel_rfl) (fun _ _ _ h => h) (Or.inl ⟨by rfl, ?_⟩) hHeld ?_ ?_
   rotate_left
   ·intro w' s0
    subst s0
    go_simp
    with_reducible rfl
   rotate_left
   ·simp only [Act.put, s1_, s2_, s3_, i64_w, i32_w]
    rfl
   refine last_ (i := 8) (N := some 85) (ba 10 511) rfl rfl (by kernel_rfl) (by decide) (fun K hK => ?_)
   refine goes_ Tryz.func88 (by kernel_rfl) rfl #[(.iface tq (.pointer (some ta))), (.iface tq' (.pointer (some ta')))] (by rfl) rfl rfl (by (try simp only [List.map_toArray, List.map_cons, List.map_nil]); rfl) ?_
   refine (of88 tq tq' (.pointer (some ta)) (.pointer (some ta')) wr.drew).mono ?_
   rintro e w5 ⟨g, rfl, hg1, hg2, hg3⟩
   have hg4 : Below wr.heap.size wr w5 := ⟨hg3.os, hg3.tape, hg3.output, hg3.size, hg3.block⟩
   have y2 : w5.cell? ⟨g, 2, none⟩ = some (.bool true) := (blk_cell hg2 2).trans rfl
   have f2 := blk_frozen hg2 2
   have y7 : w5.cell? ⟨b, 7, none⟩ = some (.bool true) := pw_cell_below hg4 z7
   have HG := Aside0.mk (And.intro hg1 (And.intro hg2 hg4))
   clear hg1 hg2 hg3 hg4
   refine ⟨_, rfl, ?_⟩
   refine hK.out _ _ ?_
   clear hK K
   refine norm_ (a' := ?_) ?_ ?_
   rotate_left
   ·show Act.put _ (some 85) _ = _
    simp only [Act.put, s1_, s2_, s3_]
    rfl
   refine pu 9 9 1023 ?_
   refine done_ (by kernel_rfl) ?_
   go_wp2
   go_ret
   obtain ⟨B1, hx1, hx2, hz⟩ := HE.out
   obtain ⟨hg1, hg2, hg4⟩ := HG.out
   have hk : ∀ (k : Nat) (q : Nat) (cells : Array Value), (w0.heap.size ≤ k ∧ k < wr.heap.size) → k < w5.heap.size → q ∈ DE → w5.heap[k]? = some (.cells cells q (0, 0)) → (w5.setCell ⟨g, 2, none⟩ (.bool true)).heap[k]? = some (.cells cells q (0, 0)) ∧ w.heap.size ≤ k := fun k q cells hk hl hq hc => ⟨blk_other_ (Nat.ne_of_lt (Nat.lt_of_lt_of_le hk.2 hg1)) hc, Nat.le_trans hz hk.1⟩
   have hb2 : ∀ {d : DT} {v : Value}, DTIn wr (fun k => w0.heap.size ≤ k) d v → DTIn w5 (fun k => w0.heap.size ≤ k ∧ k < wr.heap.size) d v := fun h => DTIn.step (fun k q cells hk hl _ hc => ⟨(hg4.block k hl).trans hc, hk, hl⟩) h
   exact ⟨_, rfl, ⟨g, _, _, rfl, Nat.le_trans B1.size hg1, blk_put_at hg2 rfl, (hb2 hx1).step hk, (hb2 hx2).step hk⟩, (below_step B1 hg4).setCell (p := ⟨g, 2, none⟩) (Nat.le_trans B1.size hg1) _⟩
theorem nest_map (K V : S28) (dk dv : DT) (fl : Bool) (hF2 : All2 MakesF ([⟨nmKey, false, K, []⟩, ⟨nmValue, true, V, []⟩] : List S30) ([DF.mk nmKey dk false, DF.mk nmValue dv true] : List DF)) (A8 A9 : Option Addr) (c8 c9 : Nat) (w : World) (g9 : Kd.C k30 w A9 ([⟨nmEntries, false, ⟨13, 0, false, 0, 0, 0, emp, false, [], [⟨nmKey, false, K, []⟩, ⟨nmValue, true, V, []⟩]⟩, []⟩] : List S30).length ([⟨nmEntries, false, ⟨13, 0, false, 0, 0, 0, emp, false, [], [⟨nmKey, false, K, []⟩, ⟨nmValue, true, V, []⟩]⟩, []⟩] : List S30)) (hF : All2 MakesF ([⟨nmEntries, false, ⟨13, 0, false, 0, 0, 0, emp, false, [], [⟨nmKey, false, K, []⟩, ⟨nmValue, true, V, []⟩]⟩, []⟩] : List S30) ([DF.mk nmEntries (.struct [DF.mk nmKey dk false, DF.mk nmValue dv true]) false] : List DF)) :
 Calls Tryz.prog 64 #[.agg #[.int .i64 17, .int .i64 0, .bool false, .int .i64 0, .int .i64 0, .int .i64 0, .string emp, .bool fl, .slice A8 0 c8, .slice A9 1 c9]] w (Made w (.map (.mk nmEntries (.struct [DF.mk nmKey dk false, DF.mk nmValue dv true]) false) fl)) := by
 have HF2 := Aside0.mk hF2
 clear hF2
 have hlen := hF.length
 have hn30 : ([⟨nmEntries, false, ⟨13, 0, false, 0, 0, 0, emp, false, [], [⟨nmKey, false, K, []⟩, ⟨nmValue, true, V, []⟩]⟩, []⟩] : List S30).length < 2 ^ 30 := by first | (simp; done) | omega
 have HH := Aside0.mk (And.intro g9 (And.intro hF hlen))
 clear g9 hF hlen
 go_enter Tryz.func64, Tryz.ntmps64
 go_wp2_with (go_at_call 45; fail)
 refine calls_at ?_
 intro w0 hw0
 obtain ⟨g9, hF, hlen⟩ := HH.out
 have b0 : Below w.heap.size w w0 := by rw [hw0]; exact b1_ (Below.refl _ _) _
 have x0 : w0.heap[w.heap.size]? = some (.cells #[.int .i64 17, .int .i64 0, .bool false, .int .i64 0, .int .i64 0, .int .i64 0, .string emp, .bool fl, .slice A8 0 c8, .slice A9 1 c9] 28 (0, 0)) := by rw [hw0]; exact blk_new _ _
 clear hw0
 refine (fields45 ([⟨nmEntries, false, ⟨13, 0, false, 0, 0, 0, emp, false, [], [⟨nmKey, false, K, []⟩, ⟨nmValue, true, V, []⟩]⟩, []⟩] : List S30) ([DF.mk nmEntries (.struct [DF.mk nmKey dk false, DF.mk nmValue dv true]) false] : List DF) hF A9 c9 w0 (Kd.C_below g9 b0) hn30).mono ?_
 rintro e w1 ⟨v, rfl, hR, hb⟩
 obtain ⟨A, c, rfl, hlc, hAb, hrow⟩ := row_of_R hR
 have b1 := below_step b0 hb
 have x1 := blk_below x0 hb
 have HA := Aside0.mk (And.intro b1 (And.intro x1 (And.intro hlc (And.intro hAb (And.intro hrow (And.intro b0.size hlen))))))
 clear g9 hF hlen b0 x0 hR hb hlc hAb hrow b1 x1
 go_wp2
 go_loopg [17] ([DF.mk nmEntries (.struct [DF.mk nmKey dk false, DF.mk nmValue dv true]) false] : List DF).length (fun kq v17 wr => ∃ i : Nat, v17 = .int .i64 (i : Int) ∧ Aside0 (i + kq = ([DF.mk nmEntries (.struct [DF.mk nmKey dk false, DF.mk nmValue dv true]) false] : List DF).length ∧ Below w1.heap.size w1 wr))
 case atStart => exact ⟨0, rfl, ⟨⟨by omega, Below.refl _ _⟩⟩⟩
 case round =>
  obtain ⟨i, rfl, hL⟩ := hrel
  by_cases hi : i < ([DF.mk nmEntries (.struct [DF.mk nmKey dk false, DF.mk nmValue dv true]) false] : List DF).length
  ·have hd : decide ((i : Int) < (([DF.mk nmEntries (.struct [DF.mk nmKey dk false, DF.mk nmValue dv true]) false] : List DF).length : Int)) = true := by first | (simpa using hi) | (simp at hi ⊢; omega)
   have hd2 : decide ((i : Int) < (1 : Int)) = true := by first | exact hd | (simp at hi ⊢; omega)
   have hd3 : (i : Int) < (1 : Int) := by first | omega | (simp at hi ⊢; omega)
   obtain ⟨h1, h2, h3, h4, h5, h6⟩ := HA.out
   obtain ⟨b, arr, rfl, hb1, hb2, hb3, hb4⟩ := h5 (by omega)
   obtain ⟨ad, e, hr⟩ := rowAt_of hb2 hb3 hb4 (by omega)
   cases e
   obtain ⟨cs, hf, hcell⟩ := hr i hi
   generalize ([DF.mk nmEntries (.struct [DF.mk nmKey dk false, DF.mk nmValue dv true]) false] : List DF)[i] = di at hf
   obtain ⟨nm, dt, nb⟩ := di
   obtain ⟨x, rfl, hx⟩ := hf
   obtain ⟨tq, ta, rfl⟩ := hx.form
   have hcl := fun j u hu => pw_cell_below hL.out.2 (hcell j u hu)
   have z0 : wr.cell? ⟨b, i * 5, none⟩ = some (.string nm) := by rw [← add_plain]; exact hcl 0 _ rfl
   have z1 : wr.cell? ⟨b, i * 5 + 1, none⟩ = some (.iface tq (.pointer (some ta))) := by rw [← add_plain]; exact hcl 1 _ rfl
   have z2 : wr.cell? ⟨b, i * 5 + 2, none⟩ = some (.bool nb) := by rw [← add_plain]; exact hcl 2 _ rfl
   have z3 : wr.cell? ⟨b, i * 5 + 3, none⟩ = some (.slice none 0 0) := by rw [← add_plain]; exact hcl 3 _ rfl
   have z4 : wr.cell? ⟨b, i * 5 + 4, none⟩ = some (.slice none 0 0) := by rw [← add_plain]; exact hcl 4 _ rfl
   have hd4 : (i : Int) ≤ 1073741824 := by first | (have := h6.2; omega) | (simp at hi; omega)
   clear h1 h2 h3 h4 h5 h6 hb1 hb2 hb3 hb4 hr hcell hcl hx
   go_wp2
   have l1 := hL.out.1
   go_roundg (([DF.mk nmEntries (.struct [DF.mk nmKey dk false, DF.mk nmValue dv true]) false] : List DF).length - (i + 1))
   case measure => omega
   case rel => exact ⟨i + 1, by go_num, ⟨⟨by omega, b1_ hL.out.2 _⟩⟩⟩
  ·have hd : decide ((i : Int) < (([DF.mk nmEntries (.struct [DF.mk nmKey dk false, DF.mk nmValue dv true]) false] : List DF).length : Int)) = false := by first | (simpa using hi) | (simp at hi ⊢; omega)
   have hd2 : decide ((i : Int) < (1 : Int)) = false := by first | exact hd | (simp at hi ⊢; omega)
   obtain ⟨h1, h2, h3, h4, h5, h6⟩ := HA.out
   have k1 := blk_below h2 hL.out.2
   have q0 := (blk_cell k1 0).trans (show _ = some (.int .i64 17 : Value) from rfl)
   have q1 := (blk_cell k1 1).trans (show _ = some (.int .i64 0 : Value) from rfl)
   have q2 := (blk_cell k1 2).trans (show _ = some (.bool false : Value) from rfl)
   have q3 := (blk_cell k1 3).trans (show _ = some (.int .i64 0 : Value) from rfl)
   have q4 := (blk_cell k1 4).trans (show _ = some (.int .i64 0 : Value) from rfl)
   have q5 := (blk_cell k1 5).trans (show _ = some (.int .i64 0 : Value) from rfl)
   have q6 := (blk_cell k1 6).trans (show _ = some (.string emp : Value) from rfl)
   have q7 := (blk_cell k1 7).trans (show _ = some (.bool fl : Value) from rfl)
   have q8 := (blk_cell k1 8).trans (show _ = some (.slice A8 0 c8 : Value) from rfl)
   have q9 := (blk_cell k1 9).trans (show _ = some (.slice A9 1 c9 : Value) from rfl)
   have B1 := below_step h1 hL.out.2
   obtain ⟨ad9, cs9, rfl, hK9, hc9⟩ := at30 (Kd.C_below HH.out.1 B1) 0 (by simp)
   obtain ⟨A10, c10, A11, c11, A12, c12, rfl, l10, g10, l11, g11, l12, g12⟩ := k30_open hK9
   have y11 : wr.cell? ⟨ad9.block, ad9.off + 11, none⟩ = some (.slice A11 2 c11) := by have := hc9 11 _ rfl; rwa [Nat.zero_mul, Nat.zero_add, Addr.add, if_neg (by omega)] at this
   have g11' : Kd.C k30 wr A11 ([⟨nmKey, false, K, []⟩, ⟨nmValue, true, V, []⟩] : List S30).length ([⟨nmKey, false, K, []⟩, ⟨nmValue, true, V, []⟩] : List S30) := g11
   have HE := Aside0.mk (And.intro B1 (And.intro h6.1 g11'))
   clear h1 h2 h3 h4 h5 h6 k1 B1 hK9 hc9 l10 g10 l11 g11 l12 g12 g11'
   go_wp2_with (go_at_call 45; fail)
   refine (fields45 _ _ HF2.out A11 c11 wr HE.out.2.2 (by simp)).mono ?_
   rintro e w5 ⟨v, rfl, hR, hb⟩
   obtain ⟨A', c', rfl, hlc, hAb, hrow⟩ := row_of_R hR
   obtain ⟨b, arr, rfl, hb1, hb2, hb3, hb4⟩ := hrow (by simp)
   obtain ⟨ad, e, hr⟩ := rowAt_of hb2 hb3 hb4 (by simp)
   cases e
   obtain ⟨cs, ⟨x, rfl, hx⟩, hcell⟩ := hr 0 (by simp)
   obtain ⟨tq, ta, rfl⟩ := hx.form
   obtain ⟨cs', ⟨x', rfl, hx'⟩, hcell'⟩ := hr 1 (by simp)
   obtain ⟨tq', ta', rfl⟩ := hx'.form
   have z0 : w5.cell? ⟨b, 0, none⟩ = some (.string nmKey) := by have := hcell 0 _ rfl; rwa [Nat.zero_mul, Nat.zero_add, add_plain] at this
   have z1 : w5.cell? ⟨b, 1, none⟩ = some (.iface tq (.pointer (some ta))) := by have := hcell 1 _ rfl; rwa [Nat.zero_mul, Nat.zero_add, add_plain] at this
   have z2 : w5.cell? ⟨b, 2, none⟩ = some (.bool false) := by have := hcell 2 _ rfl; rwa [Nat.zero_mul, Nat.zero_add, add_plain] at this
   have z3 : w5.cell? ⟨b, 3, none⟩ = some (.slice none 0 0) := by have := hcell 3 _ rfl; rwa [Nat.zero_mul, Nat.zero_add, add_plain] at this
   have z4 : w5.cell? ⟨b, 4, none⟩ = some (.slice none 0 0) := by have := hcell 4 _ rfl; rwa [Nat.zero_mul, Nat.zero_add, add_plain] at this
   have z5 : w5.cell? ⟨b, 5, none⟩ = some (.string nmValue) := by have := hcell' 0 _ rfl; rwa [show 1 * 5 + 0 = 5 by omega, add_plain] at this
   have z6 : w5.cell? ⟨b, 6, none⟩ = some (.iface tq' (.pointer (some ta'))) := by have := hcell' 1 _ rfl; rwa [show 1 * 5 + 1 = 6 by omega, add_plain] at this
   have z7 : w5.cell? ⟨b, 7, none⟩ = some (.bool true) := by have := hcell' 2 _ rfl; rwa [show 1 * 5 + 2 = 7 by omega, add_plain] at this
   have z8 : w5.cell? ⟨b, 8, none⟩ = some (.slice none 0 0) := by have := hcell' 3 _ rfl; rwa [show 1 * 5 + 3 = 8 by omega, add_plain] at this
   have z9 : w5.cell? ⟨b, 9, none⟩ = some (.slice none 0 0) := by have := hcell' 4 _ rfl; rwa [show 1 * 5 + 4 = 9 by omega, add_plain] at this
   have q7' : w5.cell? ⟨w.heap.size, 7, none⟩ = some (.bool fl) := pw_cell_below hb q7
   have hin : ∀ {d : DT} {v : Value}, DTIn w5 (fun k => wr.heap.size ≤ k) d v → DTIn w5 (fun k => wr.heap.size ≤ k ∧ k < w5.heap.size) d v := fun h => DTIn.step (fun k q cells hk hl _ hc => ⟨hc, hk, hl⟩) h
   have HG := Aside0.mk (And.intro hb (And.intro (hin hx) (hin hx')))
   clear hR hb hlc hAb hrow hb1 hb2 hb3 hb4 hr hcell hcell' hx hx' hin q0 q1 q2 q3 q4 q5 q6 q7 q8 q9
   go_upto_region 42 with fail
   refine start_ (n := 8) (S := fun w' => w' = w5.drew) (ds := [6]) (ba 8 0) (by kernel_rfl) rfl rfl rfl (fun hHeld => ?_)
   refine pu 0 173 1 ?_
   refine pu 1 174 3 ?_
   refine take_ (i := 2) (N := some 175) (v := ?_) (a' := ?_) (ba 8 7) rfl rfl (by kernel_rfl) (fun _ _ _ h => h) (Or.inl ⟨by rfl, ?_⟩) hHeld ?_ ?_
   rotate_left
   ·intro w' s0
    subst s0
    go_simp
    with_reducible rfl
   rotate_left
   ·simp only [Act.put, s1_, s2_, s3_, i64_w, i32_w]
    rfl
   refine pu 3 176 15 ?_
   refine pu 4 177 31 ?_
   refine take_ (i := 5) (N := some 178) (v := ?_) (a' := ?_) (ba 8 63) rfl rfl (by kernel_rfl) (fun _ _ _ h => h) (Or.inl ⟨by rfl, ?_⟩) hHeld ?_ ?_
   rotate_left
   ·intro w' s0
    subst s0
    go_simp
    with_reducible rfl
   rotate_left
   ·simp only [Act.put, s1_, s2_, s3_, i64_w, i32_w]
    rfl
   refine last_ (i := 6) (N := some 179) (ba 8 127) rfl rfl (by kernel_rfl) (by decide) (fun K hK => ?_)
   refine goes_ Tryz.func94 (by kernel_rfl) rfl #[(.agg #[.string nmKey, .iface tq (.pointer (some ta)), .bool false, .slice none 0 0, .slice none 0 0]), (.agg #[.string nmValue, .iface tq' (.pointer (some ta')), .bool true, .slice none 0 0, .slice none 0 0])] (by rfl) rfl rfl (by (try simp only [List.map_toArray, List.map_cons, List.map_nil]); rfl) ?_
   refine (map94 nmKey nmValue true tq tq' ta ta' dk dv (fun k => wr.heap.size ≤ k ∧ k < w5.heap.size) w5.drew (fun k hk => hk.2) (HG.out.2.1.below (b3_ (Below.refl _ _))) (HG.out.2.2.below (b3_ (Below.refl _ _)))).mono ?_
   rintro e w6 ⟨g, b2, cs2, rfl, hg1, hg2, hg3, hg4, hg5, hg6⟩
   have hg7 : Below w5.heap.size w5 w6 := ⟨hg6.os, hg6.tape, hg6.output, hg6.size, hg6.block⟩
   have y1 : w6.cell? ⟨g, 1, none⟩ = some (.bool false) := (blk_cell hg3 1).trans rfl
   have f1 := blk_frozen hg3 1
   have y7 : w6.cell? ⟨w.heap.size, 7, none⟩ = some (.bool fl) := pw_cell_below hg7 q7'
   have HM := Aside0.mk (And.intro hg1 (And.intro hg2 (And.intro hg3 (And.intro hg4 (And.intro hg5 hg7)))))
   clear hg1 hg2 hg3 hg4 hg5 hg6 hg7
   refine ⟨_, rfl, ?_⟩
   refine hK.out _ _ ?_
   clear hK K
   refine norm_ (a' := ?_) ?_ ?_
   rotate_left
   ·show Act.put _ (some 179) _ = _
    simp only [Act.put, s1_, s2_, s3_]
    rfl
   refine pu 7 11 255 ?_
   refine done_ (by kernel_rfl) ?_
   go_wp2
   go_ret
   obtain ⟨B1, hz, _⟩ := HE.out
   obtain ⟨hb, _, _⟩ := HG.out
   obtain ⟨hg1, hg2, hg3, hg4, hg5, hg7⟩ := HM.out
   have z1 := B1.size
   have z2 := hb.size
   have hg1' : w5.heap.size ≤ g := hg1
   have hg2' : w5.heap.size ≤ b2 := hg2
   have hne : b2 ≠ g := fun e => by rw [e, hg3] at hg4; cases hg4
   refine ⟨_, rfl, ⟨g, b2, cs2, rfl, by omega, by omega, blk_put_at hg3 rfl, blk_other_ hne hg4, ?_⟩, ?_⟩
   ·refine DFIn.step (fun k q cells hk hl hq hc => ⟨blk_other_ ?_ hc, ?_⟩) hg5
    ·exact Nat.ne_of_lt hk.2
    ·rcases hk.1 with hk | hk
     ·omega
     ·have : w5.heap.size ≤ k := hk
      omega
   ·exact (below_step (below_step B1 hb) hg7).setCell (p := ⟨g, 1, none⟩) (by show w.heap.size ≤ g; omega) _
end Go.Proofs.YteebgnhhjlgnjaaGreatDoor.V
