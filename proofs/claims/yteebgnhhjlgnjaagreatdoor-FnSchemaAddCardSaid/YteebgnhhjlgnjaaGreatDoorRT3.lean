/- spec.Right, part 3 of its kinds. -/
import Derived.Test.YteebgnhhjlgnjaaGreatDoorPV
import Derived.Test.YteebgnhhjlgnjaaGreatDoorRG
namespace Go.Proofs.YteebgnhhjlgnjaaGreatDoor.V
open Go.RowKit Go.Proofs.YteebgnhhjlgnjaaGreatDoorW.PrintWords Go.Proofs.YteebgnhhjlgnjaaGreatDoorW.PrintLast Go.Proofs.YteebgnhhjlgnjaaGreatDoorW.PrintMore
set_option maxHeartbeats 40000000
set_option maxRecDepth 100000
set_option linter.unusedVariables false
set_option linter.unusedSimpArgs false
theorem right_head3 (n : Nat) (hn : n ≤ 1000) (ih : ∀ m, n = m + 1 → ∀ (T : S28) (w : World) (A8 A9 : Option Addr) (c8 c9 : Nat) (g8 : Kd.C (Kd.int .i64) w A8 T.f8.length T.f8) (l8 : T.f8.length ≤ c8) (g9 : Kd.C k30 w A9 T.f9.length T.f9) (l9 : T.f9.length ≤ c9), Calls Tryz.prog 31 #[.agg #[.int .i64 T.f0, .int .i64 T.f1, .bool T.f2, .int .i64 T.f3, .int .i64 T.f4, .int .i64 T.f5, .string T.f6, .bool T.f7, .slice A8 T.f8.length c8, .slice A9 T.f9.length c9], .int .i64 (m : Int)] w fun e w' => (∃ b, e = .returned (.bool b) ∧ (b = true → RightP m T)) ∧ Below w.heap.size w w') (T : S28) (w : World) (A8 A9 : Option Addr) (c8 c9 : Nat) (g8 : Kd.C (Kd.int .i64) w A8 T.f8.length T.f8) (l8 : T.f8.length ≤ c8) (g9 : Kd.C k30 w A9 T.f9.length T.f9) (l9 : T.f9.length ≤ c9) (hG : T.f0 = 7) :
 Calls Tryz.prog 31 #[.agg #[.int .i64 T.f0, .int .i64 T.f1, .bool T.f2, .int .i64 T.f3, .int .i64 T.f4, .int .i64 T.f5, .string T.f6, .bool T.f7, .slice A8 T.f8.length c8, .slice A9 T.f9.length c9], .int .i64 (n : Int)] w fun e w' => (∃ b, e = .returned (.bool b) ∧ (b = true → RightP n T)) ∧ Below w.heap.size w w' := by
 have HC := Aside0.mk (And.intro g8 (And.intro l8 (And.intro g9 l9)))
 clear g8 l8 g9 l9
 have IH := Aside0.mk ih
 clear ih
 have HG := Aside0.mk hG
 clear hG
 obtain ⟨a1, ha1⟩ : ∃ x : Int, x = (n : Int) := ⟨_, rfl⟩
 rw [← ha1]
 have HN := Aside0.mk (And.intro ha1 hn)
 clear ha1 hn
 obtain ⟨lo, hlo⟩ : ∃ x : Int, x = (loP T.f0 : Int) := ⟨_, rfl⟩
 obtain ⟨hi, hhi⟩ : ∃ x : Int, x = (hiP T.f0 : Int) := ⟨_, rfl⟩
 have HP := Aside0.mk (And.intro hlo hhi)
 have hparts := parts_f T.f0
 rw [← hlo, ← hhi] at hparts
 have HPF := Aside0.mk hparts
 clear hlo hhi hparts
 go_enter Tryz.func31, Tryz.ntmps31
 go_wp2_with (go_at_call 53; fail)
 refine calls_at ?_
 intro w0 hw0
 have k0 : w0.heap[w.heap.size]? = some (.cells #[.int .i64 T.f0, .int .i64 T.f1, .bool T.f2, .int .i64 T.f3, .int .i64 T.f4, .int .i64 T.f5, .string T.f6, .bool T.f7, .slice A8 T.f8.length c8, .slice A9 T.f9.length c9] 28 (0, 0)) := by rw [hw0]; exact blk_new _ _
 have b0 : Below w.heap.size w w0 := by rw [hw0]; exact b1_ (Below.refl _ _) _
 clear hw0
 refine (spec_parts.calls 5 T.f0 _ _ w0 HPF.out).mono ?_
 rintro e w1 ⟨rfl, hdr⟩
 have b01 : Below w0.heap.size w0 w1 := by obtain ⟨nd, rfl⟩ := hdr; repeat (first | exact Below.refl _ _ | apply b1_ | apply b2_ | apply b3_)
 have k1 : w1.heap[w.heap.size]? = some (.cells #[.int .i64 T.f0, .int .i64 T.f1, .bool T.f2, .int .i64 T.f3, .int .i64 T.f4, .int .i64 T.f5, .string T.f6, .bool T.f7, .slice A8 T.f8.length c8, .slice A9 T.f9.length c9] 28 (0, 0)) := blk_below k0 b01
 have b1 : Below w.heap.size w w1 := below_step b0 b01
 have K1 := Aside0.mk (And.intro k1 b1)
 clear k0 b0 b01 hdr k1 b1
 go_upto_region 2 with fail
 go_cut [58] (fun v58 wc => ∃ b, v58 = .bool b ∧ Aside0 ((b = false → 0 < n ∧ unusedB T = true ∧ 1 ≤ T.f0 ∧ T.f0 ≤ 27 ∧ loP T.f0 ≤ T.f9.length ∧ T.f9.length ≤ hiP T.f0 ∧ T.f6.size ≤ 50) ∧ wc.heap[w.heap.size]? = some (.cells #[.int .i64 T.f0, .int .i64 T.f1, .bool T.f2, .int .i64 T.f3, .int .i64 T.f4, .int .i64 T.f5, .string T.f6, .bool T.f7, .slice A8 T.f8.length c8, .slice A9 T.f9.length c9] 28 (0, 0)) ∧ Below w.heap.size w wc))
 case first =>
  obtain ⟨y0, y1, y2, y3, y4, y5, y6, y7, y8, y9⟩ := cb10 K1.out.1
  by_cases c1 : a1 ≤ 0
  ·have dc1 : decide (a1 ≤ 0) = true := decide_eq_true c1
   clear c1
   go_wp2
   go_meet
   case rel => exact ⟨true, rfl, ⟨⟨fun e => (by cases e), K1.out.1, K1.out.2⟩⟩⟩
  have dc1 : decide (a1 ≤ 0) = false := decide_eq_false c1
  have Ac1 := Aside0.mk c1
  clear c1
  by_cases c2 : T.f0 < 1
  ·have dc2 : decide (T.f0 < 1) = true := decide_eq_true c2
   clear c2
   go_wp2
   go_meet
   case rel => exact ⟨true, rfl, ⟨⟨fun e => (by cases e), K1.out.1, K1.out.2⟩⟩⟩
  have dc2 : decide (T.f0 < 1) = false := decide_eq_false c2
  have Ac2 := Aside0.mk c2
  clear c2
  by_cases c3 : 27 < T.f0
  ·have dc3 : decide (27 < T.f0) = true := decide_eq_true c3
   clear c3
   go_wp2
   go_meet
   case rel => exact ⟨true, rfl, ⟨⟨fun e => (by cases e), K1.out.1, K1.out.2⟩⟩⟩
  have dc3 : decide (27 < T.f0) = false := decide_eq_false c3
  have Ac3 := Aside0.mk c3
  clear c3
  go_wp2_with (go_at_call 54; fail)
  clear y0 y1 y2 y3 y4 y5 y6 y7 y8 y9
  obtain ⟨g8, l8, g9, l9⟩ := HC.out
  refine (unused_calls T w1 A8 A9 c8 c9 (Kd.C_below g8 K1.out.2) l8 (Kd.C_below g9 K1.out.2) l9).mono ?_
  rintro e w2 ⟨rfl, hb⟩
  have K2 := Aside0.mk (And.intro (blk_below K1.out.1 hb) (below_step K1.out.2 hb))
  clear hb g8 l8 g9 l9
  obtain ⟨y0, y1, y2, y3, y4, y5, y6, y7, y8, y9⟩ := cb10 K2.out.1
  cases hu : unusedB T with
  | false =>
   go_wp2
   go_meet
   case rel => exact ⟨true, rfl, ⟨⟨fun e => (by cases e), K2.out.1, K2.out.2⟩⟩⟩
  | true =>
   by_cases c5 : (T.f9.length : Int) < lo
   ·have dc5 : decide ((T.f9.length : Int) < lo) = true := decide_eq_true c5
    clear c5
    go_wp2
    go_meet
    case rel => exact ⟨true, rfl, ⟨⟨fun e => (by cases e), K2.out.1, K2.out.2⟩⟩⟩
   have dc5 : decide ((T.f9.length : Int) < lo) = false := decide_eq_false c5
   have Ac5 := Aside0.mk c5
   clear c5
   by_cases c6 : hi < (T.f9.length : Int)
   ·have dc6 : decide (hi < (T.f9.length : Int)) = true := decide_eq_true c6
    clear c6
    go_wp2
    go_meet
    case rel => exact ⟨true, rfl, ⟨⟨fun e => (by cases e), K2.out.1, K2.out.2⟩⟩⟩
   have dc6 : decide (hi < (T.f9.length : Int)) = false := decide_eq_false c6
   have Ac6 := Aside0.mk c6
   clear c6
   by_cases c7 : 50 < (T.f6.size : Int)
   ·have dc7 : decide (50 < (T.f6.size : Int)) = true := decide_eq_true c7
    clear c7
    go_wp2
    go_meet
    case rel => exact ⟨true, rfl, ⟨⟨fun e => (by cases e), K2.out.1, K2.out.2⟩⟩⟩
   have dc7 : decide (50 < (T.f6.size : Int)) = false := decide_eq_false c7
   have Ac7 := Aside0.mk c7
   clear c7
   go_wp2_with (go_at_call 55; fail)
   clear y0 y1 y2 y3 y4 y5 y6 y7 y8 y9
   obtain ⟨g8, l8, g9, l9⟩ := HC.out
   refine (fields55 T w2 A8 A9 c8 c9 (Kd.C_below g9 K2.out.2)).mono ?_
   rintro e w3 ⟨⟨m, rfl⟩, hb⟩
   have K3 := Aside0.mk (And.intro (blk_below K2.out.1 hb) (below_step K2.out.2 hb))
   clear hb g8 l8 g9 l9
   have HU := Aside0.mk hu
   clear hu
   go_wp2
   go_meet
   case rel => exact ⟨decide (200 < m), rfl, ⟨⟨fun _ => ⟨by have := Ac1.out; have := HN.out.1; omega, HU.out, by have := Ac2.out; omega, by have := Ac3.out; omega, by have := Ac5.out; have := HP.out.1; omega, by have := Ac6.out; have := HP.out.2; omega, by have := Ac7.out; omega⟩, K3.out.1, K3.out.2⟩⟩⟩
 case rest =>
  obtain ⟨b, rfl, HA⟩ := hcut
  cases b with
  | true =>
   go_wp2
   go_ret
   exact ⟨⟨false, rfl, fun e => (by cases e)⟩, HA.out.2.2⟩
  | false =>
   obtain ⟨n', hn'⟩ : ∃ m, n = m + 1 := ⟨n - 1, by have := (HA.out.1 rfl).1; omega⟩
   have HN2 := Aside0.mk hn'
   clear hn'
   obtain ⟨a2, ha2⟩ : ∃ x : Int, x = (n' : Int) := ⟨_, rfl⟩
   have e0 : IntKind.i64.wrap (a1 - 1) = a2 := by
    have h1 := HN.out
    have h2 := HN2.out
    rw [i64_w, w64_id _ (by omega) (by omega)]; omega
   have e0' : wrap64 (a1 - 1) = a2 := by have h := e0; rw [i64_w] at h; exact h
   have HE := Aside0.mk (And.intro ha2 (And.intro e0 e0'))
   clear ha2 e0 e0'
   have hlen : T.f9.length ≤ 100 := Nat.le_trans (HA.out.1 rfl).2.2.2.2.2.1 (hi100 _)
   have HL := Aside0.mk hlen
   clear hlen
   obtain ⟨y0, y1, y2, y3, y4, y5, y6, y7, y8, y9⟩ := cb10 HA.out.2.1
   go_wp2
   clear y0 y1 y2 y3 y4 y5 y6 y7 y8 y9
   go_loopg [62] T.f9.length (fun kq v62 wr => ∃ i : Nat, v62 = .int .i64 (i : Int) ∧ Aside0 (i + kq = T.f9.length ∧ wr.heap[w.heap.size]? = some (.cells #[.int .i64 T.f0, .int .i64 T.f1, .bool T.f2, .int .i64 T.f3, .int .i64 T.f4, .int .i64 T.f5, .string T.f6, .bool T.f7, .slice A8 T.f8.length c8, .slice A9 T.f9.length c9] 28 (0, 0)) ∧ Below w.heap.size w wr ∧ ∀ (j : Nat) (hj : j < T.f9.length), j < i → RightP n' T.f9[j].f2))
   case atStart => exact ⟨0, rfl, ⟨⟨by omega, HA.out.2.1, HA.out.2.2, fun j hj h => absurd h (by omega)⟩⟩⟩
   case round =>
    obtain ⟨i, rfl, HR⟩ := hrel
    by_cases hi : i < T.f9.length
    ·have hd : decide ((i : Int) < (T.f9.length : Int)) = true := by simpa using hi
     have e1 : IntKind.i64.wrap ((i : Int) + 1) = ((i + 1 : Nat) : Int) := by have := HL.out; rw [i64_w, w64_id _ (by omega) (by omega)]; omega
     have e1' : wrap64 ((i : Int) + 1) = ((i + 1 : Nat) : Int) := by have h := e1; rw [i64_w] at h; exact h
     have E1 := Aside0.mk (And.intro e1 e1')
     clear e1 e1'
     obtain ⟨g8, l8, g9, l9⟩ := HC.out
     obtain ⟨h1, h2, h3, h4⟩ := HR.out
     obtain ⟨y0, y1, y2, y3, y4, y5, y6, y7, y8, y9⟩ := cb10 h2
     obtain ⟨ad, cs, eA, hK, hcell⟩ := at30 (Kd.C_below g9 h3) i hi
     subst eA
     obtain ⟨A10, c10, A11, c11, A12, c12, hcs, l10, g10, l11, g11, l12, g12⟩ := k30_open hK
     obtain ⟨x0, x1, x2, x3, x4, x5, x6, x7, x8, x9, x10, x11, x12⟩ := fld13 hcell hcs
     have K2 := Aside0.mk (And.intro l10 (And.intro g10 (And.intro l11 g11)))
     clear l10 g10 l11 g11 l12 g12 hcs hcell hK g8 l8 g9 l9 h1 h2 h3 h4
     go_wp2_with (go_at_call 31; fail)
     rw [HE.out.2.2, HE.out.1]
     clear x0 x1 x2 x3 x4 x5 x6 x7 x8 x9 x10 x11 x12 y0 y1 y2 y3 y4 y5 y6 y7 y8 y9
     refine calls_at ?_
     intro w2 hw2
     obtain ⟨h1, h2, h3, h4⟩ := HR.out
     obtain ⟨l10, g10, l11, g11⟩ := K2.out
     have b2 : Below wr.heap.size wr w2 := by rw [hw2]; exact (Below.refl _ _).alloc (Nat.le_refl _) _
     have k2 : w2.heap[w.heap.size]? = some (.cells #[.int .i64 T.f0, .int .i64 T.f1, .bool T.f2, .int .i64 T.f3, .int .i64 T.f4, .int .i64 T.f5, .string T.f6, .bool T.f7, .slice A8 T.f8.length c8, .slice (some ad) T.f9.length c9] 28 (0, 0)) := by rw [hw2]; exact blk_alloc_ h2
     clear hw2
     refine (IH.out n' HN2.out T.f9[i].f2 w2 A10 A11 c10 c11 (Kd.C_below g10 b2) l10 (Kd.C_below g11 b2) l11).mono ?_
     rintro e w3 ⟨⟨b, rfl, hb⟩, hb3⟩
     have K3 := Aside0.mk (And.intro (below_step (below_step h3 b2) hb3) (And.intro (blk_below k2 hb3) hb))
     clear l10 g10 l11 g11 h1 h2 h3 h4 b2 k2 hb hb3
     cases b with
     | false =>
      go_wp2
      go_ret
      exact ⟨⟨false, rfl, fun e => (by cases e)⟩, K3.out.1⟩
     | true =>
      go_wp2
      go_roundg (T.f9.length - (i + 1))
      case measure => have := HR.out.1; omega
      case rel =>
       refine ⟨i + 1, by first | rfl | (rw [E1.out.1]) | (rw [E1.out.2]) | go_num, ⟨⟨by have := HR.out.1; omega, K3.out.2.1, K3.out.1, fun j hj hlt => ?_⟩⟩⟩
       by_cases hji : j < i
       ·exact HR.out.2.2.2 j hj hji
       ·have e : j = i := by omega
        subst e
        exact K3.out.2.2 (by first | rfl | trivial)
    ·have hd : decide ((i : Int) < (T.f9.length : Int)) = false := by simpa using hi
     obtain ⟨h1, h2, h3, h4⟩ := HR.out
     have F := HA.out.1 (by first | rfl | trivial)
     have HF := Aside0.mk (And.intro F (fun (j : Nat) (hj : j < T.f9.length) => h4 j hj (by omega)))
     have HW := Aside0.mk (And.intro h2 h3)
     have hr : T.f0 = 1 ∨ T.f0 = 2 ∨ T.f0 = 3 ∨ T.f0 = 4 ∨ T.f0 = 5 ∨ T.f0 = 6 ∨ T.f0 = 7 ∨ T.f0 = 8 ∨ T.f0 = 9 ∨ T.f0 = 10 ∨ T.f0 = 11 ∨ T.f0 = 12 ∨ T.f0 = 13 ∨ T.f0 = 14 ∨ T.f0 = 15 ∨ T.f0 = 16 ∨ T.f0 = 17 ∨ T.f0 = 18 ∨ T.f0 = 19 ∨ T.f0 = 20 ∨ T.f0 = 21 ∨ T.f0 = 22 ∨ T.f0 = 23 ∨ T.f0 = 24 ∨ T.f0 = 25 ∨ T.f0 = 26 ∨ T.f0 = 27 := by have := F.2.2.1; have := F.2.2.2.1; omega
     clear h1 h2 h3 h4 F
     rcases hr with hk | hk | hk | hk | hk | hk | hk | hk | hk | hk | hk | hk | hk | hk | hk | hk | hk | hk | hk | hk | hk | hk | hk | hk | hk | hk | hk
     ·have HK := Aside0.mk hk
      as_aux_lemma =>
       exact absurd HG.out (by have h := HK.out; rw [h]; decide)
     ·have HK := Aside0.mk hk
      as_aux_lemma =>
       exact absurd HG.out (by have h := HK.out; rw [h]; decide)
     ·have HK := Aside0.mk hk
      as_aux_lemma =>
       exact absurd HG.out (by have h := HK.out; rw [h]; decide)
     ·have HK := Aside0.mk hk
      as_aux_lemma =>
       exact absurd HG.out (by have h := HK.out; rw [h]; decide)
     ·have HK := Aside0.mk hk
      as_aux_lemma =>
       exact absurd HG.out (by have h := HK.out; rw [h]; decide)
     ·have HK := Aside0.mk hk
      as_aux_lemma =>
       exact absurd HG.out (by have h := HK.out; rw [h]; decide)
     ·have HK := Aside0.mk hk
      as_aux_lemma =>
       have y0 : wr.cell? ⟨w.heap.size, 0, none⟩ = some (.int .i64 7) := (blk_cell HW.out.1 0).trans (by rw [← hk]; rfl)
       have y1 : wr.cell? ⟨w.heap.size, 1, none⟩ = some (.int .i64 T.f1) := (blk_cell HW.out.1 1).trans rfl
       have y2 : wr.cell? ⟨w.heap.size, 2, none⟩ = some (.bool T.f2) := (blk_cell HW.out.1 2).trans rfl
       have y3 : wr.cell? ⟨w.heap.size, 3, none⟩ = some (.int .i64 T.f3) := (blk_cell HW.out.1 3).trans rfl
       have y4 : wr.cell? ⟨w.heap.size, 4, none⟩ = some (.int .i64 T.f4) := (blk_cell HW.out.1 4).trans rfl
       have y5 : wr.cell? ⟨w.heap.size, 5, none⟩ = some (.int .i64 T.f5) := (blk_cell HW.out.1 5).trans rfl
       have y6 : wr.cell? ⟨w.heap.size, 6, none⟩ = some (.string T.f6) := (blk_cell HW.out.1 6).trans rfl
       have y7 : wr.cell? ⟨w.heap.size, 7, none⟩ = some (.bool T.f7) := (blk_cell HW.out.1 7).trans rfl
       have y8 : wr.cell? ⟨w.heap.size, 8, none⟩ = some (.slice A8 T.f8.length c8) := (blk_cell HW.out.1 8).trans rfl
       have y9 : wr.cell? ⟨w.heap.size, 9, none⟩ = some (.slice A9 T.f9.length c9) := (blk_cell HW.out.1 9).trans rfl
       clear hk
       obtain ⟨pr, hpr, hpl⟩ := prec_f T.f1
       have HPR := Aside0.mk (And.intro hpr hpl)
       clear hpr hpl
       cases hc : ([32, 64, 128, 256] : List Int).contains T.f1 with
       | false =>
        as_aux_lemma =>
         go_upto_region 16 with fail
         refine start_ (n := 33) (S := fun w' => w'.cell? ⟨w.heap.size, 1, none⟩ = some (.int .i64 T.f1) ∧ w'.cell? ⟨w.heap.size, 4, none⟩ = some (.int .i64 T.f4) ∧ w'.cell? ⟨w.heap.size, 5, none⟩ = some (.int .i64 T.f5)) (ds := []) (ba 33 0) (by kernel_rfl) rfl rfl ⟨y1, y4, y5⟩ (fun hHeld => ?_)
         refine with_tabW rt_tab16 rt_bits16 (fun HT_ HW_ => ?_)
         generalize hw2 : wr.drew = w2 at hHeld ⊢
         have B2 := Aside0.mk (show Below w.heap.size w w2 by rw [← hw2]; exact b3_ HW.out.2)
         clear hw2
         clear y0 y1 y2 y3 y4 y5 y6 y7 y8 y9
         have hS := Aside0.mk hHeld
         refine pv 0 89 (ba 33 1) (any_of HT_.out (by kernel_rfl)) ?_
         refine tv 1 90 (ba 33 3) (take_ofW HT_.out HW_.out (by kernel_rfl)) ?_
         refine one_ (i := 2) (N := some 91) (ba 33 7) rfl rfl (one_of HT_.out (by kernel_rfl)) (by decide) (fun K hK => ?_)
         refine value_ (v := .slice (some ⟨w2.heap.size, 0, none⟩) 4 4) (w1 := w2.alloc (.cells #[.int .i64 32, .int .i64 64, .int .i64 128, .int .i64 256] 3)) (by rfl) rfl ?_ ?_
         ·first | (go_simp; done) | (go_simp; rfl)
         refine hK.out _ _ ⟨pw_cell_below ((Below.refl _ _).alloc (Nat.le_refl _) _) hS.out.1, pw_cell_below ((Below.refl _ _).alloc (Nat.le_refl _) _) hS.out.2.1, pw_cell_below ((Below.refl _ _).alloc (Nat.le_refl _) _) hS.out.2.2⟩ (fun hHeld => ?_)
         clear hK K
         refine no 91 ?_
         refine one_ (i := 3) (N := some 92) (ba 33 15) rfl rfl (one_of HT_.out (by kernel_rfl)) (by decide) (fun K hK => ?_)
         refine goes_ Tryz.func56 (by kernel_rfl) rfl #[.int .i64 T.f1, .slice (some ⟨w2.heap.size, 0, none⟩) 4 4] (by rfl) rfl rfl (by (try simp only [List.map_toArray, List.map_cons, List.map_nil]); first | done | rfl) ?_
         refine (in_lit T.f1 [32, 64, 128, 256] (by decide) _ 3 w2 4 rfl rfl).mono ?_
         rintro e w3 ⟨rfl, hb3⟩
         have B3 := Aside0.mk (below_step B2.out hb3)
         have hS3 := Aside0.mk (And.intro (pw_cell_below hb3 hS.out.1) (And.intro (pw_cell_below hb3 hS.out.2.1) (pw_cell_below hb3 hS.out.2.2)))
         clear hb3
         refine ⟨_, by rw [hc], ?_⟩
         refine hK.out _ _ hS3.out (fun hHeld => ?_)
         clear hK K
         refine no 92 ?_
         refine pv 4 93 (ba 33 31) (any_of HT_.out (by kernel_rfl)) ?_
         refine ov 5 94 (ba 33 63) (any_of HT_.out (by kernel_rfl)) ?_
         refine ov 6 95 (ba 33 127) (any_of HT_.out (by kernel_rfl)) ?_
         refine ov 7 96 (ba 33 255) (any_of HT_.out (by kernel_rfl)) ?_
         refine pv 8 97 (ba 33 511) (any_of HT_.out (by kernel_rfl)) ?_
         refine pv 9 98 (ba 33 1023) (any_of HT_.out (by kernel_rfl)) ?_
         refine ov 10 99 (ba 33 2047) (any_of HT_.out (by kernel_rfl)) ?_
         refine ov 11 100 (ba 33 4095) (any_of HT_.out (by kernel_rfl)) ?_
         refine ov 12 101 (ba 33 8191) (any_of HT_.out (by kernel_rfl)) ?_
         refine ov 13 102 (ba 33 16383) (any_of HT_.out (by kernel_rfl)) ?_
         refine one_ (i := 14) (N := some 103) (ba 33 32767) rfl rfl (one_of HT_.out (by kernel_rfl)) (by decide) (fun K hK => ?_)
         refine off_ (by rfl) ?_
         refine hK.out _ _ hS3.out (fun hHeld => ?_)
         clear hK K
         refine no 103 ?_
         refine ov 15 104 (ba 33 65535) (any_of HT_.out (by kernel_rfl)) ?_
         refine pv 16 105 (ba 33 131071) (any_of HT_.out (by kernel_rfl)) ?_
         refine pv 17 106 (ba 33 262143) (any_of HT_.out (by kernel_rfl)) ?_
         refine ov 18 107 (ba 33 524287) (any_of HT_.out (by kernel_rfl)) ?_
         refine ov 19 108 (ba 33 1048575) (any_of HT_.out (by kernel_rfl)) ?_
         refine ov 20 109 (ba 33 2097151) (any_of HT_.out (by kernel_rfl)) ?_
         refine ov 21 110 (ba 33 4194303) (any_of HT_.out (by kernel_rfl)) ?_
         refine ov 22 111 (ba 33 8388607) (any_of HT_.out (by kernel_rfl)) ?_
         refine ov 23 112 (ba 33 16777215) (any_of HT_.out (by kernel_rfl)) ?_
         refine pv 24 113 (ba 33 33554431) (any_of HT_.out (by kernel_rfl)) ?_
         refine pv 25 114 (ba 33 67108863) (any_of HT_.out (by kernel_rfl)) ?_
         refine ov 26 115 (ba 33 134217727) (any_of HT_.out (by kernel_rfl)) ?_
         refine ov 27 116 (ba 33 268435455) (any_of HT_.out (by kernel_rfl)) ?_
         refine ov 28 117 (ba 33 536870911) (any_of HT_.out (by kernel_rfl)) ?_
         refine ov 29 118 (ba 33 1073741823) (any_of HT_.out (by kernel_rfl)) ?_
         refine ov 30 119 (ba 33 2147483647) (any_of HT_.out (by kernel_rfl)) ?_
         refine pv 31 120 (ba 33 4294967295) (any_of HT_.out (by kernel_rfl)) ?_
         refine pv 32 4 (ba 33 8589934591) (any_of HT_.out (by kernel_rfl)) ?_
         refine done_ (done_of HT_.out (by kernel_rfl)) ?_
         go_wp2
         go_ret
         exact ⟨⟨_, rfl, fun hb => (by first | (cases hb; done) | (simp at hb; done))⟩, B3.out⟩
       | true =>
        by_cases p1 : 1 ≤ T.f4
        ·have q1 : decide (1 ≤ T.f4) = true := decide_eq_true p1
         have P1 := Aside0.mk p1
         clear p1
         by_cases p2 : T.f4 ≤ pr
         ·have q2 : decide (T.f4 ≤ pr) = true := decide_eq_true p2
          have P2 := Aside0.mk p2
          clear p2
          by_cases p3 : wrap64 (-T.f4) ≤ T.f5
          ·have q3 : decide (wrap64 (-T.f4) ≤ T.f5) = true := decide_eq_true p3
           have P3 := Aside0.mk p3
           clear p3
           as_aux_lemma =>
            go_upto_region 16 with fail
            refine start_ (n := 33) (S := fun w' => w'.cell? ⟨w.heap.size, 1, none⟩ = some (.int .i64 T.f1) ∧ w'.cell? ⟨w.heap.size, 4, none⟩ = some (.int .i64 T.f4) ∧ w'.cell? ⟨w.heap.size, 5, none⟩ = some (.int .i64 T.f5)) (ds := []) (ba 33 0) (by kernel_rfl) rfl rfl ⟨y1, y4, y5⟩ (fun hHeld => ?_)
            refine with_tabW rt_tab16 rt_bits16 (fun HT_ HW_ => ?_)
            generalize hw2 : wr.drew = w2 at hHeld ⊢
            have B2 := Aside0.mk (show Below w.heap.size w w2 by rw [← hw2]; exact b3_ HW.out.2)
            clear hw2
            clear y0 y1 y2 y3 y4 y5 y6 y7 y8 y9
            have hS := Aside0.mk hHeld
            refine pv 0 89 (ba 33 1) (any_of HT_.out (by kernel_rfl)) ?_
            refine tv 1 90 (ba 33 3) (take_ofW HT_.out HW_.out (by kernel_rfl)) ?_
            refine one_ (i := 2) (N := some 91) (ba 33 7) rfl rfl (one_of HT_.out (by kernel_rfl)) (by decide) (fun K hK => ?_)
            refine value_ (v := .slice (some ⟨w2.heap.size, 0, none⟩) 4 4) (w1 := w2.alloc (.cells #[.int .i64 32, .int .i64 64, .int .i64 128, .int .i64 256] 3)) (by rfl) rfl ?_ ?_
            ·first | (go_simp; done) | (go_simp; rfl)
            refine hK.out _ _ ⟨pw_cell_below ((Below.refl _ _).alloc (Nat.le_refl _) _) hS.out.1, pw_cell_below ((Below.refl _ _).alloc (Nat.le_refl _) _) hS.out.2.1, pw_cell_below ((Below.refl _ _).alloc (Nat.le_refl _) _) hS.out.2.2⟩ (fun hHeld => ?_)
            clear hK K
            refine no 91 ?_
            refine one_ (i := 3) (N := some 92) (ba 33 15) rfl rfl (one_of HT_.out (by kernel_rfl)) (by decide) (fun K hK => ?_)
            refine goes_ Tryz.func56 (by kernel_rfl) rfl #[.int .i64 T.f1, .slice (some ⟨w2.heap.size, 0, none⟩) 4 4] (by rfl) rfl rfl (by (try simp only [List.map_toArray, List.map_cons, List.map_nil]); first | done | rfl) ?_
            refine (in_lit T.f1 [32, 64, 128, 256] (by decide) _ 3 w2 4 rfl rfl).mono ?_
            rintro e w3 ⟨rfl, hb3⟩
            have B3 := Aside0.mk (below_step B2.out hb3)
            have hS3 := Aside0.mk (And.intro (pw_cell_below hb3 hS.out.1) (And.intro (pw_cell_below hb3 hS.out.2.1) (pw_cell_below hb3 hS.out.2.2)))
            clear hb3
            refine ⟨_, by rw [hc], ?_⟩
            refine hK.out _ _ hS3.out (fun hHeld => ?_)
            clear hK K
            refine no 92 ?_
            refine pv 4 93 (ba 33 31) (any_of HT_.out (by kernel_rfl)) ?_
            refine pv 5 94 (ba 33 63) (any_of HT_.out (by kernel_rfl)) ?_
            refine tv 6 95 (ba 33 127) (take_ofW HT_.out HW_.out (by kernel_rfl)) ?_
            refine pv 7 96 (ba 33 255) (any_of HT_.out (by kernel_rfl)) ?_
            refine pv 8 97 (ba 33 511) (any_of HT_.out (by kernel_rfl)) ?_
            refine pv 9 98 (ba 33 1023) (any_of HT_.out (by kernel_rfl)) ?_
            refine pv 10 99 (ba 33 2047) (any_of HT_.out (by kernel_rfl)) ?_
            refine tv 11 100 (ba 33 4095) (take_ofW HT_.out HW_.out (by kernel_rfl)) ?_
            refine pv 12 101 (ba 33 8191) (any_of HT_.out (by kernel_rfl)) ?_
            refine tv 13 102 (ba 33 16383) (take_ofW HT_.out HW_.out (by kernel_rfl)) ?_
            refine one_ (i := 14) (N := some 103) (ba 33 32767) rfl rfl (one_of HT_.out (by kernel_rfl)) (by decide) (fun K hK => ?_)
            refine goes_ Tryz.func57 (by kernel_rfl) rfl #[.int .i64 T.f1] (by rfl) rfl rfl (by (try simp only [List.map_toArray, List.map_cons, List.map_nil]); first | done | rfl) ?_
            refine (spec_precisions.calls T.f1 pr w3 HPR.out.1).mono ?_
            rintro e w4 ⟨rfl, ⟨nd, rfl⟩⟩
            replace B3 := Aside0.mk (show Below w.heap.size w (w3.drewN nd) from by have := B3.out; repeat (first | exact this | apply b2_))
            refine ⟨_, rfl, ?_⟩
            refine hK.out _ _ hS3.out (fun hHeld => ?_)
            clear hK K
            refine no 103 ?_
            refine pv 15 104 (ba 33 65535) (any_of HT_.out (by kernel_rfl)) ?_
            refine pv 16 105 (ba 33 131071) (any_of HT_.out (by kernel_rfl)) ?_
            refine pv 17 106 (ba 33 262143) (any_of HT_.out (by kernel_rfl)) ?_
            refine pv 18 107 (ba 33 524287) (any_of HT_.out (by kernel_rfl)) ?_
            refine tv 19 108 (ba 33 1048575) (take_ofW HT_.out HW_.out (by kernel_rfl)) ?_
            refine pv 20 109 (ba 33 2097151) (any_of HT_.out (by kernel_rfl)) ?_
            refine tv 21 110 (ba 33 4194303) (take_ofW HT_.out HW_.out (by kernel_rfl)) ?_
            refine pv 22 111 (ba 33 8388607) (any_of HT_.out (by kernel_rfl)) ?_
            refine pv 23 112 (ba 33 16777215) (any_of HT_.out (by kernel_rfl)) ?_
            refine pv 24 113 (ba 33 33554431) (any_of HT_.out (by kernel_rfl)) ?_
            refine pv 25 114 (ba 33 67108863) (any_of HT_.out (by kernel_rfl)) ?_
            refine pv 26 115 (ba 33 134217727) (any_of HT_.out (by kernel_rfl)) ?_
            refine tv 27 116 (ba 33 268435455) (take_ofW HT_.out HW_.out (by kernel_rfl)) ?_
            refine pv 28 117 (ba 33 536870911) (any_of HT_.out (by kernel_rfl)) ?_
            refine tv 29 118 (ba 33 1073741823) (take_ofW HT_.out HW_.out (by kernel_rfl)) ?_
            refine pv 30 119 (ba 33 2147483647) (any_of HT_.out (by kernel_rfl)) ?_
            refine pv 31 120 (ba 33 4294967295) (any_of HT_.out (by kernel_rfl)) ?_
            refine pv 32 4 (ba 33 8589934591) (any_of HT_.out (by kernel_rfl)) ?_
            refine done_ (done_of HT_.out (by kernel_rfl)) ?_
            go_wp2
            go_ret
            exact ⟨⟨_, rfl, fun hb => right_mk HN2.out HF.out.1 (kp_dec7 HK.out hc P1.out P2.out HPR.out.2 P3.out (by first | exact of_decide_eq_true hb | exact hb)) HF.out.2⟩, B3.out⟩
          ·have q3 : decide (wrap64 (-T.f4) ≤ T.f5) = false := decide_eq_false p3
           clear p3
           as_aux_lemma =>
            go_upto_region 16 with fail
            refine start_ (n := 33) (S := fun w' => w'.cell? ⟨w.heap.size, 1, none⟩ = some (.int .i64 T.f1) ∧ w'.cell? ⟨w.heap.size, 4, none⟩ = some (.int .i64 T.f4) ∧ w'.cell? ⟨w.heap.size, 5, none⟩ = some (.int .i64 T.f5)) (ds := []) (ba 33 0) (by kernel_rfl) rfl rfl ⟨y1, y4, y5⟩ (fun hHeld => ?_)
            refine with_tabW rt_tab16 rt_bits16 (fun HT_ HW_ => ?_)
            generalize hw2 : wr.drew = w2 at hHeld ⊢
            have B2 := Aside0.mk (show Below w.heap.size w w2 by rw [← hw2]; exact b3_ HW.out.2)
            clear hw2
            clear y0 y1 y2 y3 y4 y5 y6 y7 y8 y9
            have hS := Aside0.mk hHeld
            refine pv 0 89 (ba 33 1) (any_of HT_.out (by kernel_rfl)) ?_
            refine tv 1 90 (ba 33 3) (take_ofW HT_.out HW_.out (by kernel_rfl)) ?_
            refine one_ (i := 2) (N := some 91) (ba 33 7) rfl rfl (one_of HT_.out (by kernel_rfl)) (by decide) (fun K hK => ?_)
            refine value_ (v := .slice (some ⟨w2.heap.size, 0, none⟩) 4 4) (w1 := w2.alloc (.cells #[.int .i64 32, .int .i64 64, .int .i64 128, .int .i64 256] 3)) (by rfl) rfl ?_ ?_
            ·first | (go_simp; done) | (go_simp; rfl)
            refine hK.out _ _ ⟨pw_cell_below ((Below.refl _ _).alloc (Nat.le_refl _) _) hS.out.1, pw_cell_below ((Below.refl _ _).alloc (Nat.le_refl _) _) hS.out.2.1, pw_cell_below ((Below.refl _ _).alloc (Nat.le_refl _) _) hS.out.2.2⟩ (fun hHeld => ?_)
            clear hK K
            refine no 91 ?_
            refine one_ (i := 3) (N := some 92) (ba 33 15) rfl rfl (one_of HT_.out (by kernel_rfl)) (by decide) (fun K hK => ?_)
            refine goes_ Tryz.func56 (by kernel_rfl) rfl #[.int .i64 T.f1, .slice (some ⟨w2.heap.size, 0, none⟩) 4 4] (by rfl) rfl rfl (by (try simp only [List.map_toArray, List.map_cons, List.map_nil]); first | done | rfl) ?_
            refine (in_lit T.f1 [32, 64, 128, 256] (by decide) _ 3 w2 4 rfl rfl).mono ?_
            rintro e w3 ⟨rfl, hb3⟩
            have B3 := Aside0.mk (below_step B2.out hb3)
            have hS3 := Aside0.mk (And.intro (pw_cell_below hb3 hS.out.1) (And.intro (pw_cell_below hb3 hS.out.2.1) (pw_cell_below hb3 hS.out.2.2)))
            clear hb3
            refine ⟨_, by rw [hc], ?_⟩
            refine hK.out _ _ hS3.out (fun hHeld => ?_)
            clear hK K
            refine no 92 ?_
            refine pv 4 93 (ba 33 31) (any_of HT_.out (by kernel_rfl)) ?_
            refine pv 5 94 (ba 33 63) (any_of HT_.out (by kernel_rfl)) ?_
            refine tv 6 95 (ba 33 127) (take_ofW HT_.out HW_.out (by kernel_rfl)) ?_
            refine pv 7 96 (ba 33 255) (any_of HT_.out (by kernel_rfl)) ?_
            refine pv 8 97 (ba 33 511) (any_of HT_.out (by kernel_rfl)) ?_
            refine pv 9 98 (ba 33 1023) (any_of HT_.out (by kernel_rfl)) ?_
            refine pv 10 99 (ba 33 2047) (any_of HT_.out (by kernel_rfl)) ?_
            refine tv 11 100 (ba 33 4095) (take_ofW HT_.out HW_.out (by kernel_rfl)) ?_
            refine pv 12 101 (ba 33 8191) (any_of HT_.out (by kernel_rfl)) ?_
            refine tv 13 102 (ba 33 16383) (take_ofW HT_.out HW_.out (by kernel_rfl)) ?_
            refine one_ (i := 14) (N := some 103) (ba 33 32767) rfl rfl (one_of HT_.out (by kernel_rfl)) (by decide) (fun K hK => ?_)
            refine goes_ Tryz.func57 (by kernel_rfl) rfl #[.int .i64 T.f1] (by rfl) rfl rfl (by (try simp only [List.map_toArray, List.map_cons, List.map_nil]); first | done | rfl) ?_
            refine (spec_precisions.calls T.f1 pr w3 HPR.out.1).mono ?_
            rintro e w4 ⟨rfl, ⟨nd, rfl⟩⟩
            replace B3 := Aside0.mk (show Below w.heap.size w (w3.drewN nd) from by have := B3.out; repeat (first | exact this | apply b2_))
            refine ⟨_, rfl, ?_⟩
            refine hK.out _ _ hS3.out (fun hHeld => ?_)
            clear hK K
            refine no 103 ?_
            refine pv 15 104 (ba 33 65535) (any_of HT_.out (by kernel_rfl)) ?_
            refine pv 16 105 (ba 33 131071) (any_of HT_.out (by kernel_rfl)) ?_
            refine pv 17 106 (ba 33 262143) (any_of HT_.out (by kernel_rfl)) ?_
            refine pv 18 107 (ba 33 524287) (any_of HT_.out (by kernel_rfl)) ?_
            refine tv 19 108 (ba 33 1048575) (take_ofW HT_.out HW_.out (by kernel_rfl)) ?_
            refine pv 20 109 (ba 33 2097151) (any_of HT_.out (by kernel_rfl)) ?_
            refine tv 21 110 (ba 33 4194303) (take_ofW HT_.out HW_.out (by kernel_rfl)) ?_
            refine pv 22 111 (ba 33 8388607) (any_of HT_.out (by kernel_rfl)) ?_
            refine pv 23 112 (ba 33 16777215) (any_of HT_.out (by kernel_rfl)) ?_
            refine pv 24 113 (ba 33 33554431) (any_of HT_.out (by kernel_rfl)) ?_
            refine pv 25 114 (ba 33 67108863) (any_of HT_.out (by kernel_rfl)) ?_
            refine ov 26 115 (ba 33 134217727) (any_of HT_.out (by kernel_rfl)) ?_
            refine ov 27 116 (ba 33 268435455) (any_of HT_.out (by kernel_rfl)) ?_
            refine ov 28 117 (ba 33 536870911) (any_of HT_.out (by kernel_rfl)) ?_
            refine ov 29 118 (ba 33 1073741823) (any_of HT_.out (by kernel_rfl)) ?_
            refine ov 30 119 (ba 33 2147483647) (any_of HT_.out (by kernel_rfl)) ?_
            refine pv 31 120 (ba 33 4294967295) (any_of HT_.out (by kernel_rfl)) ?_
            refine pv 32 4 (ba 33 8589934591) (any_of HT_.out (by kernel_rfl)) ?_
            refine done_ (done_of HT_.out (by kernel_rfl)) ?_
            go_wp2
            go_ret
            exact ⟨⟨_, rfl, fun hb => (by first | (cases hb; done) | (simp at hb; done))⟩, B3.out⟩
         ·have q2 : decide (T.f4 ≤ pr) = false := decide_eq_false p2
          clear p2
          as_aux_lemma =>
           go_upto_region 16 with fail
           refine start_ (n := 33) (S := fun w' => w'.cell? ⟨w.heap.size, 1, none⟩ = some (.int .i64 T.f1) ∧ w'.cell? ⟨w.heap.size, 4, none⟩ = some (.int .i64 T.f4) ∧ w'.cell? ⟨w.heap.size, 5, none⟩ = some (.int .i64 T.f5)) (ds := []) (ba 33 0) (by kernel_rfl) rfl rfl ⟨y1, y4, y5⟩ (fun hHeld => ?_)
           refine with_tabW rt_tab16 rt_bits16 (fun HT_ HW_ => ?_)
           generalize hw2 : wr.drew = w2 at hHeld ⊢
           have B2 := Aside0.mk (show Below w.heap.size w w2 by rw [← hw2]; exact b3_ HW.out.2)
           clear hw2
           clear y0 y1 y2 y3 y4 y5 y6 y7 y8 y9
           have hS := Aside0.mk hHeld
           refine pv 0 89 (ba 33 1) (any_of HT_.out (by kernel_rfl)) ?_
           refine tv 1 90 (ba 33 3) (take_ofW HT_.out HW_.out (by kernel_rfl)) ?_
           refine one_ (i := 2) (N := some 91) (ba 33 7) rfl rfl (one_of HT_.out (by kernel_rfl)) (by decide) (fun K hK => ?_)
           refine value_ (v := .slice (some ⟨w2.heap.size, 0, none⟩) 4 4) (w1 := w2.alloc (.cells #[.int .i64 32, .int .i64 64, .int .i64 128, .int .i64 256] 3)) (by rfl) rfl ?_ ?_
           ·first | (go_simp; done) | (go_simp; rfl)
           refine hK.out _ _ ⟨pw_cell_below ((Below.refl _ _).alloc (Nat.le_refl _) _) hS.out.1, pw_cell_below ((Below.refl _ _).alloc (Nat.le_refl _) _) hS.out.2.1, pw_cell_below ((Below.refl _ _).alloc (Nat.le_refl _) _) hS.out.2.2⟩ (fun hHeld => ?_)
           clear hK K
           refine no 91 ?_
           refine one_ (i := 3) (N := some 92) (ba 33 15) rfl rfl (one_of HT_.out (by kernel_rfl)) (by decide) (fun K hK => ?_)
           refine goes_ Tryz.func56 (by kernel_rfl) rfl #[.int .i64 T.f1, .slice (some ⟨w2.heap.size, 0, none⟩) 4 4] (by rfl) rfl rfl (by (try simp only [List.map_toArray, List.map_cons, List.map_nil]); first | done | rfl) ?_
           refine (in_lit T.f1 [32, 64, 128, 256] (by decide) _ 3 w2 4 rfl rfl).mono ?_
           rintro e w3 ⟨rfl, hb3⟩
           have B3 := Aside0.mk (below_step B2.out hb3)
           have hS3 := Aside0.mk (And.intro (pw_cell_below hb3 hS.out.1) (And.intro (pw_cell_below hb3 hS.out.2.1) (pw_cell_below hb3 hS.out.2.2)))
           clear hb3
           refine ⟨_, by rw [hc], ?_⟩
           refine hK.out _ _ hS3.out (fun hHeld => ?_)
           clear hK K
           refine no 92 ?_
           refine pv 4 93 (ba 33 31) (any_of HT_.out (by kernel_rfl)) ?_
           refine pv 5 94 (ba 33 63) (any_of HT_.out (by kernel_rfl)) ?_
           refine tv 6 95 (ba 33 127) (take_ofW HT_.out HW_.out (by kernel_rfl)) ?_
           refine pv 7 96 (ba 33 255) (any_of HT_.out (by kernel_rfl)) ?_
           refine pv 8 97 (ba 33 511) (any_of HT_.out (by kernel_rfl)) ?_
           refine pv 9 98 (ba 33 1023) (any_of HT_.out (by kernel_rfl)) ?_
           refine pv 10 99 (ba 33 2047) (any_of HT_.out (by kernel_rfl)) ?_
           refine tv 11 100 (ba 33 4095) (take_ofW HT_.out HW_.out (by kernel_rfl)) ?_
           refine pv 12 101 (ba 33 8191) (any_of HT_.out (by kernel_rfl)) ?_
           refine tv 13 102 (ba 33 16383) (take_ofW HT_.out HW_.out (by kernel_rfl)) ?_
           refine one_ (i := 14) (N := some 103) (ba 33 32767) rfl rfl (one_of HT_.out (by kernel_rfl)) (by decide) (fun K hK => ?_)
           refine goes_ Tryz.func57 (by kernel_rfl) rfl #[.int .i64 T.f1] (by rfl) rfl rfl (by (try simp only [List.map_toArray, List.map_cons, List.map_nil]); first | done | rfl) ?_
           refine (spec_precisions.calls T.f1 pr w3 HPR.out.1).mono ?_
           rintro e w4 ⟨rfl, ⟨nd, rfl⟩⟩
           replace B3 := Aside0.mk (show Below w.heap.size w (w3.drewN nd) from by have := B3.out; repeat (first | exact this | apply b2_))
           refine ⟨_, rfl, ?_⟩
           refine hK.out _ _ hS3.out (fun hHeld => ?_)
           clear hK K
           refine no 103 ?_
           refine pv 15 104 (ba 33 65535) (any_of HT_.out (by kernel_rfl)) ?_
           refine pv 16 105 (ba 33 131071) (any_of HT_.out (by kernel_rfl)) ?_
           refine pv 17 106 (ba 33 262143) (any_of HT_.out (by kernel_rfl)) ?_
           refine ov 18 107 (ba 33 524287) (any_of HT_.out (by kernel_rfl)) ?_
           refine ov 19 108 (ba 33 1048575) (any_of HT_.out (by kernel_rfl)) ?_
           refine ov 20 109 (ba 33 2097151) (any_of HT_.out (by kernel_rfl)) ?_
           refine ov 21 110 (ba 33 4194303) (any_of HT_.out (by kernel_rfl)) ?_
           refine ov 22 111 (ba 33 8388607) (any_of HT_.out (by kernel_rfl)) ?_
           refine ov 23 112 (ba 33 16777215) (any_of HT_.out (by kernel_rfl)) ?_
           refine pv 24 113 (ba 33 33554431) (any_of HT_.out (by kernel_rfl)) ?_
           refine pv 25 114 (ba 33 67108863) (any_of HT_.out (by kernel_rfl)) ?_
           refine ov 26 115 (ba 33 134217727) (any_of HT_.out (by kernel_rfl)) ?_
           refine ov 27 116 (ba 33 268435455) (any_of HT_.out (by kernel_rfl)) ?_
           refine ov 28 117 (ba 33 536870911) (any_of HT_.out (by kernel_rfl)) ?_
           refine ov 29 118 (ba 33 1073741823) (any_of HT_.out (by kernel_rfl)) ?_
           refine ov 30 119 (ba 33 2147483647) (any_of HT_.out (by kernel_rfl)) ?_
           refine pv 31 120 (ba 33 4294967295) (any_of HT_.out (by kernel_rfl)) ?_
           refine pv 32 4 (ba 33 8589934591) (any_of HT_.out (by kernel_rfl)) ?_
           refine done_ (done_of HT_.out (by kernel_rfl)) ?_
           go_wp2
           go_ret
           exact ⟨⟨_, rfl, fun hb => (by first | (cases hb; done) | (simp at hb; done))⟩, B3.out⟩
        ·have q1 : decide (1 ≤ T.f4) = false := decide_eq_false p1
         clear p1
         as_aux_lemma =>
          go_upto_region 16 with fail
          refine start_ (n := 33) (S := fun w' => w'.cell? ⟨w.heap.size, 1, none⟩ = some (.int .i64 T.f1) ∧ w'.cell? ⟨w.heap.size, 4, none⟩ = some (.int .i64 T.f4) ∧ w'.cell? ⟨w.heap.size, 5, none⟩ = some (.int .i64 T.f5)) (ds := []) (ba 33 0) (by kernel_rfl) rfl rfl ⟨y1, y4, y5⟩ (fun hHeld => ?_)
          refine with_tabW rt_tab16 rt_bits16 (fun HT_ HW_ => ?_)
          generalize hw2 : wr.drew = w2 at hHeld ⊢
          have B2 := Aside0.mk (show Below w.heap.size w w2 by rw [← hw2]; exact b3_ HW.out.2)
          clear hw2
          clear y0 y1 y2 y3 y4 y5 y6 y7 y8 y9
          have hS := Aside0.mk hHeld
          refine pv 0 89 (ba 33 1) (any_of HT_.out (by kernel_rfl)) ?_
          refine tv 1 90 (ba 33 3) (take_ofW HT_.out HW_.out (by kernel_rfl)) ?_
          refine one_ (i := 2) (N := some 91) (ba 33 7) rfl rfl (one_of HT_.out (by kernel_rfl)) (by decide) (fun K hK => ?_)
          refine value_ (v := .slice (some ⟨w2.heap.size, 0, none⟩) 4 4) (w1 := w2.alloc (.cells #[.int .i64 32, .int .i64 64, .int .i64 128, .int .i64 256] 3)) (by rfl) rfl ?_ ?_
          ·first | (go_simp; done) | (go_simp; rfl)
          refine hK.out _ _ ⟨pw_cell_below ((Below.refl _ _).alloc (Nat.le_refl _) _) hS.out.1, pw_cell_below ((Below.refl _ _).alloc (Nat.le_refl _) _) hS.out.2.1, pw_cell_below ((Below.refl _ _).alloc (Nat.le_refl _) _) hS.out.2.2⟩ (fun hHeld => ?_)
          clear hK K
          refine no 91 ?_
          refine one_ (i := 3) (N := some 92) (ba 33 15) rfl rfl (one_of HT_.out (by kernel_rfl)) (by decide) (fun K hK => ?_)
          refine goes_ Tryz.func56 (by kernel_rfl) rfl #[.int .i64 T.f1, .slice (some ⟨w2.heap.size, 0, none⟩) 4 4] (by rfl) rfl rfl (by (try simp only [List.map_toArray, List.map_cons, List.map_nil]); first | done | rfl) ?_
          refine (in_lit T.f1 [32, 64, 128, 256] (by decide) _ 3 w2 4 rfl rfl).mono ?_
          rintro e w3 ⟨rfl, hb3⟩
          have B3 := Aside0.mk (below_step B2.out hb3)
          have hS3 := Aside0.mk (And.intro (pw_cell_below hb3 hS.out.1) (And.intro (pw_cell_below hb3 hS.out.2.1) (pw_cell_below hb3 hS.out.2.2)))
          clear hb3
          refine ⟨_, by rw [hc], ?_⟩
          refine hK.out _ _ hS3.out (fun hHeld => ?_)
          clear hK K
          refine no 92 ?_
          refine pv 4 93 (ba 33 31) (any_of HT_.out (by kernel_rfl)) ?_
          refine pv 5 94 (ba 33 63) (any_of HT_.out (by kernel_rfl)) ?_
          refine tv 6 95 (ba 33 127) (take_ofW HT_.out HW_.out (by kernel_rfl)) ?_
          refine pv 7 96 (ba 33 255) (any_of HT_.out (by kernel_rfl)) ?_
          refine pv 8 97 (ba 33 511) (any_of HT_.out (by kernel_rfl)) ?_
          refine pv 9 98 (ba 33 1023) (any_of HT_.out (by kernel_rfl)) ?_
          refine ov 10 99 (ba 33 2047) (any_of HT_.out (by kernel_rfl)) ?_
          refine ov 11 100 (ba 33 4095) (any_of HT_.out (by kernel_rfl)) ?_
          refine ov 12 101 (ba 33 8191) (any_of HT_.out (by kernel_rfl)) ?_
          refine ov 13 102 (ba 33 16383) (any_of HT_.out (by kernel_rfl)) ?_
          refine one_ (i := 14) (N := some 103) (ba 33 32767) rfl rfl (one_of HT_.out (by kernel_rfl)) (by decide) (fun K hK => ?_)
          refine off_ (by rfl) ?_
          refine hK.out _ _ hS3.out (fun hHeld => ?_)
          clear hK K
          refine no 103 ?_
          refine ov 15 104 (ba 33 65535) (any_of HT_.out (by kernel_rfl)) ?_
          refine pv 16 105 (ba 33 131071) (any_of HT_.out (by kernel_rfl)) ?_
          refine pv 17 106 (ba 33 262143) (any_of HT_.out (by kernel_rfl)) ?_
          refine ov 18 107 (ba 33 524287) (any_of HT_.out (by kernel_rfl)) ?_
          refine ov 19 108 (ba 33 1048575) (any_of HT_.out (by kernel_rfl)) ?_
          refine ov 20 109 (ba 33 2097151) (any_of HT_.out (by kernel_rfl)) ?_
          refine ov 21 110 (ba 33 4194303) (any_of HT_.out (by kernel_rfl)) ?_
          refine ov 22 111 (ba 33 8388607) (any_of HT_.out (by kernel_rfl)) ?_
          refine ov 23 112 (ba 33 16777215) (any_of HT_.out (by kernel_rfl)) ?_
          refine pv 24 113 (ba 33 33554431) (any_of HT_.out (by kernel_rfl)) ?_
          refine pv 25 114 (ba 33 67108863) (any_of HT_.out (by kernel_rfl)) ?_
          refine ov 26 115 (ba 33 134217727) (any_of HT_.out (by kernel_rfl)) ?_
          refine ov 27 116 (ba 33 268435455) (any_of HT_.out (by kernel_rfl)) ?_
          refine ov 28 117 (ba 33 536870911) (any_of HT_.out (by kernel_rfl)) ?_
          refine ov 29 118 (ba 33 1073741823) (any_of HT_.out (by kernel_rfl)) ?_
          refine ov 30 119 (ba 33 2147483647) (any_of HT_.out (by kernel_rfl)) ?_
          refine pv 31 120 (ba 33 4294967295) (any_of HT_.out (by kernel_rfl)) ?_
          refine pv 32 4 (ba 33 8589934591) (any_of HT_.out (by kernel_rfl)) ?_
          refine done_ (done_of HT_.out (by kernel_rfl)) ?_
          go_wp2
          go_ret
          exact ⟨⟨_, rfl, fun hb => (by first | (cases hb; done) | (simp at hb; done))⟩, B3.out⟩
     ·have HK := Aside0.mk hk
      as_aux_lemma =>
       exact absurd HG.out (by have h := HK.out; rw [h]; decide)
     ·have HK := Aside0.mk hk
      as_aux_lemma =>
       exact absurd HG.out (by have h := HK.out; rw [h]; decide)
     ·have HK := Aside0.mk hk
      as_aux_lemma =>
       exact absurd HG.out (by have h := HK.out; rw [h]; decide)
     ·have HK := Aside0.mk hk
      as_aux_lemma =>
       exact absurd HG.out (by have h := HK.out; rw [h]; decide)
     ·have HK := Aside0.mk hk
      as_aux_lemma =>
       exact absurd HG.out (by have h := HK.out; rw [h]; decide)
     ·have HK := Aside0.mk hk
      as_aux_lemma =>
       exact absurd HG.out (by have h := HK.out; rw [h]; decide)
     ·have HK := Aside0.mk hk
      as_aux_lemma =>
       exact absurd HG.out (by have h := HK.out; rw [h]; decide)
     ·have HK := Aside0.mk hk
      as_aux_lemma =>
       exact absurd HG.out (by have h := HK.out; rw [h]; decide)
     ·have HK := Aside0.mk hk
      as_aux_lemma =>
       exact absurd HG.out (by have h := HK.out; rw [h]; decide)
     ·have HK := Aside0.mk hk
      as_aux_lemma =>
       exact absurd HG.out (by have h := HK.out; rw [h]; decide)
     ·have HK := Aside0.mk hk
      as_aux_lemma =>
       exact absurd HG.out (by have h := HK.out; rw [h]; decide)
     ·have HK := Aside0.mk hk
      as_aux_lemma =>
       exact absurd HG.out (by have h := HK.out; rw [h]; decide)
     ·have HK := Aside0.mk hk
      as_aux_lemma =>
       exact absurd HG.out (by have h := HK.out; rw [h]; decide)
     ·have HK := Aside0.mk hk
      as_aux_lemma =>
       exact absurd HG.out (by have h := HK.out; rw [h]; decide)
     ·have HK := Aside0.mk hk
      as_aux_lemma =>
       exact absurd HG.out (by have h := HK.out; rw [h]; decide)
     ·have HK := Aside0.mk hk
      as_aux_lemma =>
       exact absurd HG.out (by have h := HK.out; rw [h]; decide)
     ·have HK := Aside0.mk hk
      as_aux_lemma =>
       exact absurd HG.out (by have h := HK.out; rw [h]; decide)
     ·have HK := Aside0.mk hk
      as_aux_lemma =>
       exact absurd HG.out (by have h := HK.out; rw [h]; decide)
     ·have HK := Aside0.mk hk
      as_aux_lemma =>
       exact absurd HG.out (by have h := HK.out; rw [h]; decide)
     ·have HK := Aside0.mk hk
      as_aux_lemma =>
       exact absurd HG.out (by have h := HK.out; rw [h]; decide)
end Go.Proofs.YteebgnhhjlgnjaaGreatDoor.V
