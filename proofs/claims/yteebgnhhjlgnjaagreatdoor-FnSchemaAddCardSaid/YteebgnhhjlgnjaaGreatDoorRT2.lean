/- spec.Right, part 2 of its kinds. -/
import Derived.Test.YteebgnhhjlgnjaaGreatDoorRG
namespace Go.Proofs.YteebgnhhjlgnjaaGreatDoor.V
open Go.RowKit Go.Proofs.YteebgnhhjlgnjaaGreatDoorW.PrintWords Go.Proofs.YteebgnhhjlgnjaaGreatDoorW.PrintLast Go.Proofs.YteebgnhhjlgnjaaGreatDoorW.PrintMore
set_option maxHeartbeats 40000000
set_option maxRecDepth 100000
set_option linter.unusedVariables false
set_option linter.unusedSimpArgs false
theorem right_head2 (n : Nat) (hn : n ≤ 1000) (ih : ∀ m, n = m + 1 → ∀ (T : S28) (w : World) (A8 A9 : Option Addr) (c8 c9 : Nat) (g8 : Kd.C (Kd.int .i64) w A8 T.f8.length T.f8) (l8 : T.f8.length ≤ c8) (g9 : Kd.C k30 w A9 T.f9.length T.f9) (l9 : T.f9.length ≤ c9), Calls Tryz.prog 31 #[.agg #[.int .i64 T.f0, .int .i64 T.f1, .bool T.f2, .int .i64 T.f3, .int .i64 T.f4, .int .i64 T.f5, .string T.f6, .bool T.f7, .slice A8 T.f8.length c8, .slice A9 T.f9.length c9], .int .i64 (m : Int)] w fun e w' => (∃ b, e = .returned (.bool b) ∧ (b = true → RightP m T)) ∧ Below w.heap.size w w') (T : S28) (w : World) (A8 A9 : Option Addr) (c8 c9 : Nat) (g8 : Kd.C (Kd.int .i64) w A8 T.f8.length T.f8) (l8 : T.f8.length ≤ c8) (g9 : Kd.C k30 w A9 T.f9.length T.f9) (l9 : T.f9.length ≤ c9) (hG : T.f0 = 16 ∨ T.f0 = 14 ∨ T.f0 = 17 ∨ T.f0 = 22) :
 Calls Tryz.prog 31 #[.agg #[.int .i64 T.f0, .int .i64 T.f1, .bool T.f2, .int .i64 T.f3, .int .i64 T.f4, .int .i64 T.f5, .string T.f6, .bool T.f7, .slice A8 T.f8.length c8, .slice A9 T.f9.length c9], .int .i64 (n : Int)] w fun e w' => (∃ b, e = .returned (.bool b) ∧ (b = true → RightP n T)) ∧ Below w.heap.size w w' := by
 have HC := Aside0.mk (And.intro g8 (And.intro l8 (And.intro g9 l9)))
 clear g8 l8 g9 l9
 have IH := Aside0.mk ih
 clear ih
 have HG := Aside0.mk hG
 clear hG
 obtain ⟨a1, ha1⟩ : ∃ x : Int, x = (n : Int) := ⟨_, rfl⟩
 rw [← ha1]
 have HN := Aside0.mk (And.intro ha1 hn)
 clear ha1 hn
 obtain ⟨lo, hlo⟩ : ∃ x : Int, x = (loP T.f0 : Int) := ⟨_, rfl⟩
 obtain ⟨hi, hhi⟩ : ∃ x : Int, x = (hiP T.f0 : Int) := ⟨_, rfl⟩
 have HP := Aside0.mk (And.intro hlo hhi)
 have hparts := parts_f T.f0
 rw [← hlo, ← hhi] at hparts
 have HPF := Aside0.mk hparts
 clear hlo hhi hparts
 go_enter Tryz.func31, Tryz.ntmps31
 go_wp2_with (go_at_call 53; fail)
 refine calls_at ?_
 intro w0 hw0
 have k0 : w0.heap[w.heap.size]? = some (.cells #[.int .i64 T.f0, .int .i64 T.f1, .bool T.f2, .int .i64 T.f3, .int .i64 T.f4, .int .i64 T.f5, .string T.f6, .bool T.f7, .slice A8 T.f8.length c8, .slice A9 T.f9.length c9] 28 (0, 0)) := by rw [hw0]; exact blk_new _ _
 have b0 : Below w.heap.size w w0 := by rw [hw0]; exact b1_ (Below.refl _ _) _
 clear hw0
 refine (spec_parts.calls 5 T.f0 _ _ w0 HPF.out).mono ?_
 rintro e w1 ⟨rfl, hdr⟩
 have b01 : Below w0.heap.size w0 w1 := by obtain ⟨nd, rfl⟩ := hdr; repeat (first | exact Below.refl _ _ | apply b1_ | apply b2_ | apply b3_)
 have k1 : w1.heap[w.heap.size]? = some (.cells #[.int .i64 T.f0, .int .i64 T.f1, .bool T.f2, .int .i64 T.f3, .int .i64 T.f4, .int .i64 T.f5, .string T.f6, .bool T.f7, .slice A8 T.f8.length c8, .slice A9 T.f9.length c9] 28 (0, 0)) := blk_below k0 b01
 have b1 : Below w.heap.size w w1 := below_step b0 b01
 have K1 := Aside0.mk (And.intro k1 b1)
 clear k0 b0 b01 hdr k1 b1
 go_upto_region 2 with fail
 go_cut [58] (fun v58 wc => ∃ b, v58 = .bool b ∧ Aside0 ((b = false → 0 < n ∧ unusedB T = true ∧ 1 ≤ T.f0 ∧ T.f0 ≤ 27 ∧ loP T.f0 ≤ T.f9.length ∧ T.f9.length ≤ hiP T.f0 ∧ T.f6.size ≤ 50) ∧ wc.heap[w.heap.size]? = some (.cells #[.int .i64 T.f0, .int .i64 T.f1, .bool T.f2, .int .i64 T.f3, .int .i64 T.f4, .int .i64 T.f5, .string T.f6, .bool T.f7, .slice A8 T.f8.length c8, .slice A9 T.f9.length c9] 28 (0, 0)) ∧ Below w.heap.size w wc))
 case first =>
  obtain ⟨y0, y1, y2, y3, y4, y5, y6, y7, y8, y9⟩ := cb10 K1.out.1
  by_cases c1 : a1 ≤ 0
  ·have dc1 : decide (a1 ≤ 0) = true := decide_eq_true c1
   clear c1
   go_wp2
   go_meet
   case rel => exact ⟨true, rfl, ⟨⟨fun e => (by cases e), K1.out.1, K1.out.2⟩⟩⟩
  have dc1 : decide (a1 ≤ 0) = false := decide_eq_false c1
  have Ac1 := Aside0.mk c1
  clear c1
  by_cases c2 : T.f0 < 1
  ·have dc2 : decide (T.f0 < 1) = true := decide_eq_true c2
   clear c2
   go_wp2
   go_meet
   case rel => exact ⟨true, rfl, ⟨⟨fun e => (by cases e), K1.out.1, K1.out.2⟩⟩⟩
  have dc2 : decide (T.f0 < 1) = false := decide_eq_false c2
  have Ac2 := Aside0.mk c2
  clear c2
  by_cases c3 : 27 < T.f0
  ·have dc3 : decide (27 < T.f0) = true := decide_eq_true c3
   clear c3
   go_wp2
   go_meet
   case rel => exact ⟨true, rfl, ⟨⟨fun e => (by cases e), K1.out.1, K1.out.2⟩⟩⟩
  have dc3 : decide (27 < T.f0) = false := decide_eq_false c3
  have Ac3 := Aside0.mk c3
  clear c3
  go_wp2_with (go_at_call 54; fail)
  clear y0 y1 y2 y3 y4 y5 y6 y7 y8 y9
  obtain ⟨g8, l8, g9, l9⟩ := HC.out
  refine (unused_calls T w1 A8 A9 c8 c9 (Kd.C_below g8 K1.out.2) l8 (Kd.C_below g9 K1.out.2) l9).mono ?_
  rintro e w2 ⟨rfl, hb⟩
  have K2 := Aside0.mk (And.intro (blk_below K1.out.1 hb) (below_step K1.out.2 hb))
  clear hb g8 l8 g9 l9
  obtain ⟨y0, y1, y2, y3, y4, y5, y6, y7, y8, y9⟩ := cb10 K2.out.1
  cases hu : unusedB T with
  | false =>
   go_wp2
   go_meet
   case rel => exact ⟨true, rfl, ⟨⟨fun e => (by cases e), K2.out.1, K2.out.2⟩⟩⟩
  | true =>
   by_cases c5 : (T.f9.length : Int) < lo
   ·have dc5 : decide ((T.f9.length : Int) < lo) = true := decide_eq_true c5
    clear c5
    go_wp2
    go_meet
    case rel => exact ⟨true, rfl, ⟨⟨fun e => (by cases e), K2.out.1, K2.out.2⟩⟩⟩
   have dc5 : decide ((T.f9.length : Int) < lo) = false := decide_eq_false c5
   have Ac5 := Aside0.mk c5
   clear c5
   by_cases c6 : hi < (T.f9.length : Int)
   ·have dc6 : decide (hi < (T.f9.length : Int)) = true := decide_eq_true c6
    clear c6
    go_wp2
    go_meet
    case rel => exact ⟨true, rfl, ⟨⟨fun e => (by cases e), K2.out.1, K2.out.2⟩⟩⟩
   have dc6 : decide (hi < (T.f9.length : Int)) = false := decide_eq_false c6
   have Ac6 := Aside0.mk c6
   clear c6
   by_cases c7 : 50 < (T.f6.size : Int)
   ·have dc7 : decide (50 < (T.f6.size : Int)) = true := decide_eq_true c7
    clear c7
    go_wp2
    go_meet
    case rel => exact ⟨true, rfl, ⟨⟨fun e => (by cases e), K2.out.1, K2.out.2⟩⟩⟩
   have dc7 : decide (50 < (T.f6.size : Int)) = false := decide_eq_false c7
   have Ac7 := Aside0.mk c7
   clear c7
   go_wp2_with (go_at_call 55; fail)
   clear y0 y1 y2 y3 y4 y5 y6 y7 y8 y9
   obtain ⟨g8, l8, g9, l9⟩ := HC.out
   refine (fields55 T w2 A8 A9 c8 c9 (Kd.C_below g9 K2.out.2)).mono ?_
   rintro e w3 ⟨⟨m, rfl⟩, hb⟩
   have K3 := Aside0.mk (And.intro (blk_below K2.out.1 hb) (below_step K2.out.2 hb))
   clear hb g8 l8 g9 l9
   have HU := Aside0.mk hu
   clear hu
   go_wp2
   go_meet
   case rel => exact ⟨decide (200 < m), rfl, ⟨⟨fun _ => ⟨by have := Ac1.out; have := HN.out.1; omega, HU.out, by have := Ac2.out; omega, by have := Ac3.out; omega, by have := Ac5.out; have := HP.out.1; omega, by have := Ac6.out; have := HP.out.2; omega, by have := Ac7.out; omega⟩, K3.out.1, K3.out.2⟩⟩⟩
 case rest =>
  obtain ⟨b, rfl, HA⟩ := hcut
  cases b with
  | true =>
   go_wp2
   go_ret
   exact ⟨⟨false, rfl, fun e => (by cases e)⟩, HA.out.2.2⟩
  | false =>
   obtain ⟨n', hn'⟩ : ∃ m, n = m + 1 := ⟨n - 1, by have := (HA.out.1 rfl).1; omega⟩
   have HN2 := Aside0.mk hn'
   clear hn'
   obtain ⟨a2, ha2⟩ : ∃ x : Int, x = (n' : Int) := ⟨_, rfl⟩
   have e0 : IntKind.i64.wrap (a1 - 1) = a2 := by
    have h1 := HN.out
    have h2 := HN2.out
    rw [i64_w, w64_id _ (by omega) (by omega)]; omega
   have e0' : wrap64 (a1 - 1) = a2 := by have h := e0; rw [i64_w] at h; exact h
   have HE := Aside0.mk (And.intro ha2 (And.intro e0 e0'))
   clear ha2 e0 e0'
   have hlen : T.f9.length ≤ 100 := Nat.le_trans (HA.out.1 rfl).2.2.2.2.2.1 (hi100 _)
   have HL := Aside0.mk hlen
   clear hlen
   obtain ⟨y0, y1, y2, y3, y4, y5, y6, y7, y8, y9⟩ := cb10 HA.out.2.1
   go_wp2
   clear y0 y1 y2 y3 y4 y5 y6 y7 y8 y9
   go_loopg [62] T.f9.length (fun kq v62 wr => ∃ i : Nat, v62 = .int .i64 (i : Int) ∧ Aside0 (i + kq = T.f9.length ∧ wr.heap[w.heap.size]? = some (.cells #[.int .i64 T.f0, .int .i64 T.f1, .bool T.f2, .int .i64 T.f3, .int .i64 T.f4, .int .i64 T.f5, .string T.f6, .bool T.f7, .slice A8 T.f8.length c8, .slice A9 T.f9.length c9] 28 (0, 0)) ∧ Below w.heap.size w wr ∧ ∀ (j : Nat) (hj : j < T.f9.length), j < i → RightP n' T.f9[j].f2))
   case atStart => exact ⟨0, rfl, ⟨⟨by omega, HA.out.2.1, HA.out.2.2, fun j hj h => absurd h (by omega)⟩⟩⟩
   case round =>
    obtain ⟨i, rfl, HR⟩ := hrel
    by_cases hi : i < T.f9.length
    ·have hd : decide ((i : Int) < (T.f9.length : Int)) = true := by simpa using hi
     have e1 : IntKind.i64.wrap ((i : Int) + 1) = ((i + 1 : Nat) : Int) := by have := HL.out; rw [i64_w, w64_id _ (by omega) (by omega)]; omega
     have e1' : wrap64 ((i : Int) + 1) = ((i + 1 : Nat) : Int) := by have h := e1; rw [i64_w] at h; exact h
     have E1 := Aside0.mk (And.intro e1 e1')
     clear e1 e1'
     obtain ⟨g8, l8, g9, l9⟩ := HC.out
     obtain ⟨h1, h2, h3, h4⟩ := HR.out
     obtain ⟨y0, y1, y2, y3, y4, y5, y6, y7, y8, y9⟩ := cb10 h2
     obtain ⟨ad, cs, eA, hK, hcell⟩ := at30 (Kd.C_below g9 h3) i hi
     subst eA
     obtain ⟨A10, c10, A11, c11, A12, c12, hcs, l10, g10, l11, g11, l12, g12⟩ := k30_open hK
     obtain ⟨x0, x1, x2, x3, x4, x5, x6, x7, x8, x9, x10, x11, x12⟩ := fld13 hcell hcs
     have K2 := Aside0.mk (And.intro l10 (And.intro g10 (And.intro l11 g11)))
     clear l10 g10 l11 g11 l12 g12 hcs hcell hK g8 l8 g9 l9 h1 h2 h3 h4
     go_wp2_with (go_at_call 31; fail)
     rw [HE.out.2.2, HE.out.1]
     clear x0 x1 x2 x3 x4 x5 x6 x7 x8 x9 x10 x11 x12 y0 y1 y2 y3 y4 y5 y6 y7 y8 y9
     refine calls_at ?_
     intro w2 hw2
     obtain ⟨h1, h2, h3, h4⟩ := HR.out
     obtain ⟨l10, g10, l11, g11⟩ := K2.out
     have b2 : Below wr.heap.size wr w2 := by rw [hw2]; exact (Below.refl _ _).alloc (Nat.le_refl _) _
     have k2 : w2.heap[w.heap.size]? = some (.cells #[.int .i64 T.f0, .int .i64 T.f1, .bool T.f2, .int .i64 T.f3, .int .i64 T.f4, .int .i64 T.f5, .string T.f6, .bool T.f7, .slice A8 T.f8.length c8, .slice (some ad) T.f9.length c9] 28 (0, 0)) := by rw [hw2]; exact blk_alloc_ h2
     clear hw2
     refine (IH.out n' HN2.out T.f9[i].f2 w2 A10 A11 c10 c11 (Kd.C_below g10 b2) l10 (Kd.C_below g11 b2) l11).mono ?_
     rintro e w3 ⟨⟨b, rfl, hb⟩, hb3⟩
     have K3 := Aside0.mk (And.intro (below_step (below_step h3 b2) hb3) (And.intro (blk_below k2 hb3) hb))
     clear l10 g10 l11 g11 h1 h2 h3 h4 b2 k2 hb hb3
     cases b with
     | false =>
      go_wp2
      go_ret
      exact ⟨⟨false, rfl, fun e => (by cases e)⟩, K3.out.1⟩
     | true =>
      go_wp2
      go_roundg (T.f9.length - (i + 1))
      case measure => have := HR.out.1; omega
      case rel =>
       refine ⟨i + 1, by first | rfl | (rw [E1.out.1]) | (rw [E1.out.2]) | go_num, ⟨⟨by have := HR.out.1; omega, K3.out.2.1, K3.out.1, fun j hj hlt => ?_⟩⟩⟩
       by_cases hji : j < i
       ·exact HR.out.2.2.2 j hj hji
       ·have e : j = i := by omega
        subst e
        exact K3.out.2.2 (by first | rfl | trivial)
    ·have hd : decide ((i : Int) < (T.f9.length : Int)) = false := by simpa using hi
     obtain ⟨h1, h2, h3, h4⟩ := HR.out
     have F := HA.out.1 (by first | rfl | trivial)
     have HF := Aside0.mk (And.intro F (fun (j : Nat) (hj : j < T.f9.length) => h4 j hj (by omega)))
     have HW := Aside0.mk (And.intro h2 h3)
     have hr : T.f0 = 1 ∨ T.f0 = 2 ∨ T.f0 = 3 ∨ T.f0 = 4 ∨ T.f0 = 5 ∨ T.f0 = 6 ∨ T.f0 = 7 ∨ T.f0 = 8 ∨ T.f0 = 9 ∨ T.f0 = 10 ∨ T.f0 = 11 ∨ T.f0 = 12 ∨ T.f0 = 13 ∨ T.f0 = 14 ∨ T.f0 = 15 ∨ T.f0 = 16 ∨ T.f0 = 17 ∨ T.f0 = 18 ∨ T.f0 = 19 ∨ T.f0 = 20 ∨ T.f0 = 21 ∨ T.f0 = 22 ∨ T.f0 = 23 ∨ T.f0 = 24 ∨ T.f0 = 25 ∨ T.f0 = 26 ∨ T.f0 = 27 := by have := F.2.2.1; have := F.2.2.2.1; omega
     clear h1 h2 h3 h4 F
     rcases hr with hk | hk | hk | hk | hk | hk | hk | hk | hk | hk | hk | hk | hk | hk | hk | hk | hk | hk | hk | hk | hk | hk | hk | hk | hk | hk | hk
     ·have HK := Aside0.mk hk
      as_aux_lemma =>
       exact absurd HG.out (by have h := HK.out; rw [h]; decide)
     ·have HK := Aside0.mk hk
      as_aux_lemma =>
       exact absurd HG.out (by have h := HK.out; rw [h]; decide)
     ·have HK := Aside0.mk hk
      as_aux_lemma =>
       exact absurd HG.out (by have h := HK.out; rw [h]; decide)
     ·have HK := Aside0.mk hk
      as_aux_lemma =>
       exact absurd HG.out (by have h := HK.out; rw [h]; decide)
     ·have HK := Aside0.mk hk
      as_aux_lemma =>
       exact absurd HG.out (by have h := HK.out; rw [h]; decide)
     ·have HK := Aside0.mk hk
      as_aux_lemma =>
       exact absurd HG.out (by have h := HK.out; rw [h]; decide)
     ·have HK := Aside0.mk hk
      as_aux_lemma =>
       exact absurd HG.out (by have h := HK.out; rw [h]; decide)
     ·have HK := Aside0.mk hk
      as_aux_lemma =>
       exact absurd HG.out (by have h := HK.out; rw [h]; decide)
     ·have HK := Aside0.mk hk
      as_aux_lemma =>
       exact absurd HG.out (by have h := HK.out; rw [h]; decide)
     ·have HK := Aside0.mk hk
      as_aux_lemma =>
       exact absurd HG.out (by have h := HK.out; rw [h]; decide)
     ·have HK := Aside0.mk hk
      as_aux_lemma =>
       exact absurd HG.out (by have h := HK.out; rw [h]; decide)
     ·have HK := Aside0.mk hk
      as_aux_lemma =>
       exact absurd HG.out (by have h := HK.out; rw [h]; decide)
     ·have HK := Aside0.mk hk
      as_aux_lemma =>
       exact absurd HG.out (by have h := HK.out; rw [h]; decide)
     ·have HK := Aside0.mk hk
      as_aux_lemma =>
       have y0 : wr.cell? ⟨w.heap.size, 0, none⟩ = some (.int .i64 14) := (blk_cell HW.out.1 0).trans (by rw [← hk]; rfl)
       have y1 : wr.cell? ⟨w.heap.size, 1, none⟩ = some (.int .i64 T.f1) := (blk_cell HW.out.1 1).trans rfl
       have y2 : wr.cell? ⟨w.heap.size, 2, none⟩ = some (.bool T.f2) := (blk_cell HW.out.1 2).trans rfl
       have y3 : wr.cell? ⟨w.heap.size, 3, none⟩ = some (.int .i64 T.f3) := (blk_cell HW.out.1 3).trans rfl
       have y4 : wr.cell? ⟨w.heap.size, 4, none⟩ = some (.int .i64 T.f4) := (blk_cell HW.out.1 4).trans rfl
       have y5 : wr.cell? ⟨w.heap.size, 5, none⟩ = some (.int .i64 T.f5) := (blk_cell HW.out.1 5).trans rfl
       have y6 : wr.cell? ⟨w.heap.size, 6, none⟩ = some (.string T.f6) := (blk_cell HW.out.1 6).trans rfl
       have y7 : wr.cell? ⟨w.heap.size, 7, none⟩ = some (.bool T.f7) := (blk_cell HW.out.1 7).trans rfl
       have y8 : wr.cell? ⟨w.heap.size, 8, none⟩ = some (.slice A8 T.f8.length c8) := (blk_cell HW.out.1 8).trans rfl
       have y9 : wr.cell? ⟨w.heap.size, 9, none⟩ = some (.slice A9 T.f9.length c9) := (blk_cell HW.out.1 9).trans rfl
       clear hk
       go_wp2_with (go_at_call 56; fail)
       clear y0 y1 y2 y3 y4 y5 y6 y7 y8 y9
       refine (in_lit T.f3 [0, 1] (by decide) _ 3 wr 2 rfl rfl).mono ?_
       rintro e w2 ⟨rfl, hb2⟩
       have H2 := Aside0.mk (And.intro (blk_below HW.out.1 hb2) (below_step HW.out.2 hb2))
       clear hb2
       generalize hc : ([0, 1] : List Int).contains T.f3 = cb
       have HQ := Aside0.mk hc
       clear hc
       cases cb with
       | false =>
        go_wp2
        go_ret
        exact ⟨⟨_, rfl, fun hb => (by first | (cases hb; done) | (simp at hb; done))⟩, H2.out.2⟩
       | true =>
        have hk := HK.out
        have y0 : w2.cell? ⟨w.heap.size, 0, none⟩ = some (.int .i64 14) := (blk_cell H2.out.1 0).trans (by rw [← hk]; rfl)
        have y1 : w2.cell? ⟨w.heap.size, 1, none⟩ = some (.int .i64 T.f1) := (blk_cell H2.out.1 1).trans rfl
        have y2 : w2.cell? ⟨w.heap.size, 2, none⟩ = some (.bool T.f2) := (blk_cell H2.out.1 2).trans rfl
        have y3 : w2.cell? ⟨w.heap.size, 3, none⟩ = some (.int .i64 T.f3) := (blk_cell H2.out.1 3).trans rfl
        have y4 : w2.cell? ⟨w.heap.size, 4, none⟩ = some (.int .i64 T.f4) := (blk_cell H2.out.1 4).trans rfl
        have y5 : w2.cell? ⟨w.heap.size, 5, none⟩ = some (.int .i64 T.f5) := (blk_cell H2.out.1 5).trans rfl
        have y6 : w2.cell? ⟨w.heap.size, 6, none⟩ = some (.string T.f6) := (blk_cell H2.out.1 6).trans rfl
        have y7 : w2.cell? ⟨w.heap.size, 7, none⟩ = some (.bool T.f7) := (blk_cell H2.out.1 7).trans rfl
        have y8 : w2.cell? ⟨w.heap.size, 8, none⟩ = some (.slice A8 T.f8.length c8) := (blk_cell H2.out.1 8).trans rfl
        have y9 : w2.cell? ⟨w.heap.size, 9, none⟩ = some (.slice A9 T.f9.length c9) := (blk_cell H2.out.1 9).trans rfl
        clear hk
        go_wp2_with (go_at_call 59; fail)
        clear y0 y1 y2 y3 y4 y5 y6 y7 y8 y9
        obtain ⟨r, hr, hri⟩ := ids_f T
        obtain ⟨g8, l8, g9, l9⟩ := HC.out
        have hids := spec_idsRight.calls 400 T.f0 T.f1 T.f2 T.f3 T.f4 T.f5 T.f6 T.f7 A8 c8 T.f8 A9 c9 T.f9 r w2 (Kd.C_below g8 H2.out.2) l8 (Kd.C_below g9 H2.out.2) l9 hr
        rw [HK.out] at hids
        refine hids.mono ?_
        clear hids hr g8 l8 g9 l9
        rintro e w3 ⟨rfl, hb3⟩
        have H3 := Aside0.mk (And.intro (below_step H2.out.2 hb3) (And.intro (blk_below H2.out.1 hb3) hri))
        clear hb3 hri
        cases r with
        | false =>
         go_wp2
         go_ret
         exact ⟨⟨_, rfl, fun hb => (by first | (cases hb; done) | (simp at hb; done))⟩, H3.out.1⟩
        | true =>
         have y9 : w3.cell? ⟨w.heap.size, 9, none⟩ = some (.slice A9 T.f9.length c9) := (blk_cell H3.out.2.1 9).trans rfl
         go_wp2
         go_ret
         exact ⟨⟨_, rfl, fun hb => right_mk HN2.out HF.out.1 (kp_union HK.out ⟨by have := List.contains_iff_mem.1 HQ.out; exact this, H3.out.2.2 (by first | rfl | trivial), by have h := of_decide_eq_true hb; omega⟩) HF.out.2⟩, H3.out.1⟩
     ·have HK := Aside0.mk hk
      as_aux_lemma =>
       exact absurd HG.out (by have h := HK.out; rw [h]; decide)
     ·have HK := Aside0.mk hk
      as_aux_lemma =>
       have y0 : wr.cell? ⟨w.heap.size, 0, none⟩ = some (.int .i64 16) := (blk_cell HW.out.1 0).trans (by rw [← hk]; rfl)
       have y1 : wr.cell? ⟨w.heap.size, 1, none⟩ = some (.int .i64 T.f1) := (blk_cell HW.out.1 1).trans rfl
       have y2 : wr.cell? ⟨w.heap.size, 2, none⟩ = some (.bool T.f2) := (blk_cell HW.out.1 2).trans rfl
       have y3 : wr.cell? ⟨w.heap.size, 3, none⟩ = some (.int .i64 T.f3) := (blk_cell HW.out.1 3).trans rfl
       have y4 : wr.cell? ⟨w.heap.size, 4, none⟩ = some (.int .i64 T.f4) := (blk_cell HW.out.1 4).trans rfl
       have y5 : wr.cell? ⟨w.heap.size, 5, none⟩ = some (.int .i64 T.f5) := (blk_cell HW.out.1 5).trans rfl
       have y6 : wr.cell? ⟨w.heap.size, 6, none⟩ = some (.string T.f6) := (blk_cell HW.out.1 6).trans rfl
       have y7 : wr.cell? ⟨w.heap.size, 7, none⟩ = some (.bool T.f7) := (blk_cell HW.out.1 7).trans rfl
       have y8 : wr.cell? ⟨w.heap.size, 8, none⟩ = some (.slice A8 T.f8.length c8) := (blk_cell HW.out.1 8).trans rfl
       have y9 : wr.cell? ⟨w.heap.size, 9, none⟩ = some (.slice A9 T.f9.length c9) := (blk_cell HW.out.1 9).trans rfl
       clear hk
       obtain ⟨g8, l8, g9, l9⟩ := HC.out
       have h0 : 0 < T.f9.length := Nat.lt_of_lt_of_le (by decide : 0 < loP 16) (HK.out ▸ HF.out.1.2.2.2.2.1)
       have q0' : (0 < T.f9.length) = True := eq_true h0
       obtain ⟨ad0, cs0, eA, hK0, hcell0⟩ := at30 (Kd.C_below g9 HW.out.2) 0 h0
       subst eA
       obtain ⟨B0_10, d0_10, B0_11, d0_11, B0_12, d0_12, hcs0, m8, n8, m9, n9, _, _⟩ := k30_open hK0
       have x0_0 : wr.cell? ad0 = some (.string T.f9[0].f0) := by have h := hcell0 0 _ (by rw [hcs0]; rfl); rwa [show 0 * 13 + 0 = 0 from rfl, Addr.add_zero'] at h
       have x0_1 : wr.cell? ⟨ad0.block, ad0.off + 1, none⟩ = some (.bool T.f9[0].f1) := by have h := hcell0 1 _ (by rw [hcs0]; rfl); rwa [show 0 * 13 + 1 = 1 from rfl, Addr.add, if_neg (by decide)] at h
       have x0_2 : wr.cell? ⟨ad0.block, ad0.off + 2, none⟩ = some (.int .i64 T.f9[0].f2.f0) := by have h := hcell0 2 _ (by rw [hcs0]; rfl); rwa [show 0 * 13 + 2 = 2 from rfl, Addr.add, if_neg (by decide)] at h
       have x0_3 : wr.cell? ⟨ad0.block, ad0.off + 3, none⟩ = some (.int .i64 T.f9[0].f2.f1) := by have h := hcell0 3 _ (by rw [hcs0]; rfl); rwa [show 0 * 13 + 3 = 3 from rfl, Addr.add, if_neg (by decide)] at h
       have x0_4 : wr.cell? ⟨ad0.block, ad0.off + 4, none⟩ = some (.bool T.f9[0].f2.f2) := by have h := hcell0 4 _ (by rw [hcs0]; rfl); rwa [show 0 * 13 + 4 = 4 from rfl, Addr.add, if_neg (by decide)] at h
       have x0_5 : wr.cell? ⟨ad0.block, ad0.off + 5, none⟩ = some (.int .i64 T.f9[0].f2.f3) := by have h := hcell0 5 _ (by rw [hcs0]; rfl); rwa [show 0 * 13 + 5 = 5 from rfl, Addr.add, if_neg (by decide)] at h
       have x0_6 : wr.cell? ⟨ad0.block, ad0.off + 6, none⟩ = some (.int .i64 T.f9[0].f2.f4) := by have h := hcell0 6 _ (by rw [hcs0]; rfl); rwa [show 0 * 13 + 6 = 6 from rfl, Addr.add, if_neg (by decide)] at h
       have x0_7 : wr.cell? ⟨ad0.block, ad0.off + 7, none⟩ = some (.int .i64 T.f9[0].f2.f5) := by have h := hcell0 7 _ (by rw [hcs0]; rfl); rwa [show 0 * 13 + 7 = 7 from rfl, Addr.add, if_neg (by decide)] at h
       have x0_8 : wr.cell? ⟨ad0.block, ad0.off + 8, none⟩ = some (.string T.f9[0].f2.f6) := by have h := hcell0 8 _ (by rw [hcs0]; rfl); rwa [show 0 * 13 + 8 = 8 from rfl, Addr.add, if_neg (by decide)] at h
       have x0_9 : wr.cell? ⟨ad0.block, ad0.off + 9, none⟩ = some (.bool T.f9[0].f2.f7) := by have h := hcell0 9 _ (by rw [hcs0]; rfl); rwa [show 0 * 13 + 9 = 9 from rfl, Addr.add, if_neg (by decide)] at h
       have x0_10 : wr.cell? ⟨ad0.block, ad0.off + 10, none⟩ = some (.slice B0_10 T.f9[0].f2.f8.length d0_10) := by have h := hcell0 10 _ (by rw [hcs0]; rfl); rwa [show 0 * 13 + 10 = 10 from rfl, Addr.add, if_neg (by decide)] at h
       have x0_11 : wr.cell? ⟨ad0.block, ad0.off + 11, none⟩ = some (.slice B0_11 T.f9[0].f2.f9.length d0_11) := by have h := hcell0 11 _ (by rw [hcs0]; rfl); rwa [show 0 * 13 + 11 = 11 from rfl, Addr.add, if_neg (by decide)] at h
       have x0_12 : wr.cell? ⟨ad0.block, ad0.off + 12, none⟩ = some (.slice B0_12 T.f9[0].f3.length d0_12) := by have h := hcell0 12 _ (by rw [hcs0]; rfl); rwa [show 0 * 13 + 12 = 12 from rfl, Addr.add, if_neg (by decide)] at h
       have E0 := Aside0.mk (And.intro m8 (And.intro n8 (And.intro m9 n9)))
       clear m8 n8 m9 n9 hcs0 hcell0 hK0
       clear g8 l8 g9 l9
       by_cases p0 : 0 ≤ T.f1
       ·have q0 : decide (0 ≤ T.f1) = true := decide_eq_true p0
        have q0e : (0 ≤ T.f1) = True := eq_true p0
        have P0 := Aside0.mk p0
        clear p0
        by_cases p1 : T.f1 ≤ 1000
        ·have q1 : decide (T.f1 ≤ 1000) = true := decide_eq_true p1
         have q1e : (T.f1 ≤ 1000) = True := eq_true p1
         have P1 := Aside0.mk p1
         clear p1
         by_cases p2 : 0 < T.f1
         ·have q2 : decide (0 < T.f1) = true := decide_eq_true p2
          have q2e : (0 < T.f1) = True := eq_true p2
          have P2 := Aside0.mk p2
          clear p2
          go_wp2_with (go_at_call 58; fail)
          obtain ⟨k0, hk0⟩ := nr_ok n' _ (HF.out.2 0 h0)
          obtain ⟨r, hr⟩ := hk0 k0 (Nat.le_refl _)
          refine (spec_narrowRuns.calls k0 _ _ _ _ _ _ _ _ _ _ _ _ _ _ r _ E0.out.2.1 E0.out.1 E0.out.2.2.2 E0.out.2.2.1 hr).mono ?_
          clear hr hk0
          rintro e w2 ⟨rfl, hb2⟩
          have H2 := Aside0.mk (below_step HW.out.2 hb2)
          clear hb2
          clear x0_0 x0_1 x0_2 x0_3 x0_4 x0_5 x0_6 x0_7 x0_8 x0_9 x0_10 x0_11 x0_12
          go_wp2
          go_ret
          exact ⟨⟨_, rfl, fun hb => right_mk HN2.out HF.out.1 (kp_flist HK.out ⟨P0.out, P1.out⟩ P2.out) HF.out.2⟩, H2.out⟩
         ·have q2 : decide (0 < T.f1) = false := decide_eq_false p2
          have q2e : (0 < T.f1) = False := eq_false p2
          clear p2
          go_wp2
          go_ret
          exact ⟨⟨_, rfl, fun hb => (by first | (cases hb; done) | (simp at hb; done))⟩, HW.out.2⟩
        ·have q1 : decide (T.f1 ≤ 1000) = false := decide_eq_false p1
         have q1e : (T.f1 ≤ 1000) = False := eq_false p1
         clear p1
         go_wp2
         go_ret
         exact ⟨⟨_, rfl, fun hb => (by first | (cases hb; done) | (simp at hb; done))⟩, HW.out.2⟩
       ·have q0 : decide (0 ≤ T.f1) = false := decide_eq_false p0
        have q0e : (0 ≤ T.f1) = False := eq_false p0
        clear p0
        go_wp2
        go_ret
        exact ⟨⟨_, rfl, fun hb => (by first | (cases hb; done) | (simp at hb; done))⟩, HW.out.2⟩
     ·have HK := Aside0.mk hk
      as_aux_lemma =>
       have y0 : wr.cell? ⟨w.heap.size, 0, none⟩ = some (.int .i64 17) := (blk_cell HW.out.1 0).trans (by rw [← hk]; rfl)
       have y1 : wr.cell? ⟨w.heap.size, 1, none⟩ = some (.int .i64 T.f1) := (blk_cell HW.out.1 1).trans rfl
       have y2 : wr.cell? ⟨w.heap.size, 2, none⟩ = some (.bool T.f2) := (blk_cell HW.out.1 2).trans rfl
       have y3 : wr.cell? ⟨w.heap.size, 3, none⟩ = some (.int .i64 T.f3) := (blk_cell HW.out.1 3).trans rfl
       have y4 : wr.cell? ⟨w.heap.size, 4, none⟩ = some (.int .i64 T.f4) := (blk_cell HW.out.1 4).trans rfl
       have y5 : wr.cell? ⟨w.heap.size, 5, none⟩ = some (.int .i64 T.f5) := (blk_cell HW.out.1 5).trans rfl
       have y6 : wr.cell? ⟨w.heap.size, 6, none⟩ = some (.string T.f6) := (blk_cell HW.out.1 6).trans rfl
       have y7 : wr.cell? ⟨w.heap.size, 7, none⟩ = some (.bool T.f7) := (blk_cell HW.out.1 7).trans rfl
       have y8 : wr.cell? ⟨w.heap.size, 8, none⟩ = some (.slice A8 T.f8.length c8) := (blk_cell HW.out.1 8).trans rfl
       have y9 : wr.cell? ⟨w.heap.size, 9, none⟩ = some (.slice A9 T.f9.length c9) := (blk_cell HW.out.1 9).trans rfl
       clear hk
       obtain ⟨g8, l8, g9, l9⟩ := HC.out
       have h0 : 0 < T.f9.length := Nat.lt_of_lt_of_le (by decide : 0 < loP 17) (HK.out ▸ HF.out.1.2.2.2.2.1)
       have q0' : (0 < T.f9.length) = True := eq_true h0
       obtain ⟨ad0, cs0, eA, hK0, hcell0⟩ := at30 (Kd.C_below g9 HW.out.2) 0 h0
       subst eA
       obtain ⟨B0_10, d0_10, B0_11, d0_11, B0_12, d0_12, hcs0, m8, n8, m9, n9, _, _⟩ := k30_open hK0
       have x0_0 : wr.cell? ad0 = some (.string T.f9[0].f0) := by have h := hcell0 0 _ (by rw [hcs0]; rfl); rwa [show 0 * 13 + 0 = 0 from rfl, Addr.add_zero'] at h
       have x0_1 : wr.cell? ⟨ad0.block, ad0.off + 1, none⟩ = some (.bool T.f9[0].f1) := by have h := hcell0 1 _ (by rw [hcs0]; rfl); rwa [show 0 * 13 + 1 = 1 from rfl, Addr.add, if_neg (by decide)] at h
       have x0_2 : wr.cell? ⟨ad0.block, ad0.off + 2, none⟩ = some (.int .i64 T.f9[0].f2.f0) := by have h := hcell0 2 _ (by rw [hcs0]; rfl); rwa [show 0 * 13 + 2 = 2 from rfl, Addr.add, if_neg (by decide)] at h
       have x0_3 : wr.cell? ⟨ad0.block, ad0.off + 3, none⟩ = some (.int .i64 T.f9[0].f2.f1) := by have h := hcell0 3 _ (by rw [hcs0]; rfl); rwa [show 0 * 13 + 3 = 3 from rfl, Addr.add, if_neg (by decide)] at h
       have x0_4 : wr.cell? ⟨ad0.block, ad0.off + 4, none⟩ = some (.bool T.f9[0].f2.f2) := by have h := hcell0 4 _ (by rw [hcs0]; rfl); rwa [show 0 * 13 + 4 = 4 from rfl, Addr.add, if_neg (by decide)] at h
       have x0_5 : wr.cell? ⟨ad0.block, ad0.off + 5, none⟩ = some (.int .i64 T.f9[0].f2.f3) := by have h := hcell0 5 _ (by rw [hcs0]; rfl); rwa [show 0 * 13 + 5 = 5 from rfl, Addr.add, if_neg (by decide)] at h
       have x0_6 : wr.cell? ⟨ad0.block, ad0.off + 6, none⟩ = some (.int .i64 T.f9[0].f2.f4) := by have h := hcell0 6 _ (by rw [hcs0]; rfl); rwa [show 0 * 13 + 6 = 6 from rfl, Addr.add, if_neg (by decide)] at h
       have x0_7 : wr.cell? ⟨ad0.block, ad0.off + 7, none⟩ = some (.int .i64 T.f9[0].f2.f5) := by have h := hcell0 7 _ (by rw [hcs0]; rfl); rwa [show 0 * 13 + 7 = 7 from rfl, Addr.add, if_neg (by decide)] at h
       have x0_8 : wr.cell? ⟨ad0.block, ad0.off + 8, none⟩ = some (.string T.f9[0].f2.f6) := by have h := hcell0 8 _ (by rw [hcs0]; rfl); rwa [show 0 * 13 + 8 = 8 from rfl, Addr.add, if_neg (by decide)] at h
       have x0_9 : wr.cell? ⟨ad0.block, ad0.off + 9, none⟩ = some (.bool T.f9[0].f2.f7) := by have h := hcell0 9 _ (by rw [hcs0]; rfl); rwa [show 0 * 13 + 9 = 9 from rfl, Addr.add, if_neg (by decide)] at h
       have x0_10 : wr.cell? ⟨ad0.block, ad0.off + 10, none⟩ = some (.slice B0_10 T.f9[0].f2.f8.length d0_10) := by have h := hcell0 10 _ (by rw [hcs0]; rfl); rwa [show 0 * 13 + 10 = 10 from rfl, Addr.add, if_neg (by decide)] at h
       have x0_11 : wr.cell? ⟨ad0.block, ad0.off + 11, none⟩ = some (.slice B0_11 T.f9[0].f2.f9.length d0_11) := by have h := hcell0 11 _ (by rw [hcs0]; rfl); rwa [show 0 * 13 + 11 = 11 from rfl, Addr.add, if_neg (by decide)] at h
       have x0_12 : wr.cell? ⟨ad0.block, ad0.off + 12, none⟩ = some (.slice B0_12 T.f9[0].f3.length d0_12) := by have h := hcell0 12 _ (by rw [hcs0]; rfl); rwa [show 0 * 13 + 12 = 12 from rfl, Addr.add, if_neg (by decide)] at h
       have E0 := Aside0.mk (And.intro m8 (And.intro n8 (And.intro m9 n9)))
       clear m8 n8 m9 n9 hcs0 hcell0 hK0
       clear g8 l8 g9 l9
       go_upto_region 32 with fail
       refine wp_at ?_
       intro w2 hw2
       have b2 : Below wr.heap.size wr w2 := by rw [hw2]; exact (Below.refl _ _).alloc (Nat.le_refl _) _
       have k2 : w2.heap[wr.heap.size]? = some (.cells #[.int .i64 T.f9[0].f2.f0, .int .i64 T.f9[0].f2.f1, .bool T.f9[0].f2.f2, .int .i64 T.f9[0].f2.f3, .int .i64 T.f9[0].f2.f4, .int .i64 T.f9[0].f2.f5, .string T.f9[0].f2.f6, .bool T.f9[0].f2.f7, .slice B0_10 T.f9[0].f2.f8.length d0_10, .slice B0_11 T.f9[0].f2.f9.length d0_11] 28 (0, 0)) := by rw [hw2]; exact blk_new _ _
       have G2 := Aside0.mk (below_step HW.out.2 b2)
       clear y0 y1 y2 y3 y4 y5 y6 y7 y8 y9
       have hk := HK.out
       have y0 : w2.cell? ⟨w.heap.size, 0, none⟩ = some (.int .i64 17) := (blk_cell (blk_below HW.out.1 b2) 0).trans (by rw [← hk]; rfl)
       have y1 : w2.cell? ⟨w.heap.size, 1, none⟩ = some (.int .i64 T.f1) := (blk_cell (blk_below HW.out.1 b2) 1).trans rfl
       have y2 : w2.cell? ⟨w.heap.size, 2, none⟩ = some (.bool T.f2) := (blk_cell (blk_below HW.out.1 b2) 2).trans rfl
       have y3 : w2.cell? ⟨w.heap.size, 3, none⟩ = some (.int .i64 T.f3) := (blk_cell (blk_below HW.out.1 b2) 3).trans rfl
       have y4 : w2.cell? ⟨w.heap.size, 4, none⟩ = some (.int .i64 T.f4) := (blk_cell (blk_below HW.out.1 b2) 4).trans rfl
       have y5 : w2.cell? ⟨w.heap.size, 5, none⟩ = some (.int .i64 T.f5) := (blk_cell (blk_below HW.out.1 b2) 5).trans rfl
       have y6 : w2.cell? ⟨w.heap.size, 6, none⟩ = some (.string T.f6) := (blk_cell (blk_below HW.out.1 b2) 6).trans rfl
       have y7 : w2.cell? ⟨w.heap.size, 7, none⟩ = some (.bool T.f7) := (blk_cell (blk_below HW.out.1 b2) 7).trans rfl
       have y8 : w2.cell? ⟨w.heap.size, 8, none⟩ = some (.slice A8 T.f8.length c8) := (blk_cell (blk_below HW.out.1 b2) 8).trans rfl
       have y9 : w2.cell? ⟨w.heap.size, 9, none⟩ = some (.slice (some ad0) T.f9.length c9) := (blk_cell (blk_below HW.out.1 b2) 9).trans rfl
       clear hk
       replace x0_0 := pw_cell_below b2 x0_0
       replace x0_1 := pw_cell_below b2 x0_1
       replace x0_2 := pw_cell_below b2 x0_2
       replace x0_3 := pw_cell_below b2 x0_3
       replace x0_4 := pw_cell_below b2 x0_4
       replace x0_5 := pw_cell_below b2 x0_5
       replace x0_6 := pw_cell_below b2 x0_6
       replace x0_7 := pw_cell_below b2 x0_7
       replace x0_8 := pw_cell_below b2 x0_8
       replace x0_9 := pw_cell_below b2 x0_9
       replace x0_10 := pw_cell_below b2 x0_10
       replace x0_11 := pw_cell_below b2 x0_11
       replace x0_12 := pw_cell_below b2 x0_12
       obtain ⟨v0, v1, v2, v3, v4, v5, v6, v7, v8, v9⟩ := cb10 k2
       have B2 := Aside0.mk b2
       clear b2 k2 hw2
       by_cases p0 : T.f9[0].f2.f0 = 13
       ·have q0 : decide (T.f9[0].f2.f0 = 13) = true := decide_eq_true p0
        have q0e : (T.f9[0].f2.f0 = 13) = True := eq_true p0
        rw [p0] at v0
        have P0 := Aside0.mk p0
        clear p0
        by_cases p1 : (T.f9[0].f2.f9.length : Int) = 2
        ·have q1 : decide ((T.f9[0].f2.f9.length : Int) = 2) = true := decide_eq_true p1
         have q1e : ((T.f9[0].f2.f9.length : Int) = 2) = True := eq_true p1
         rw [show T.f9[0].f2.f9.length = 2 by omega] at v9
         have P1 := Aside0.mk p1
         clear p1
         cases ex0_1 : T.f9[0].f1 with
         | true =>
          rw [ex0_1] at x0_1
          go_wp2
          go_ret
          exact ⟨⟨_, rfl, fun hb => (by first | (cases hb; done) | (simp at hb; done))⟩, G2.out⟩
         | false =>
          rw [ex0_1] at x0_1
          have hz : 0 < T.f9[0].f2.f9.length := by have := P1.out; omega
          have qz : (0 < T.f9[0].f2.f9.length) = True := eq_true hz
          obtain ⟨adz, csz, eA, hKz, hcellz⟩ := at30 (Kd.C_below E0.out.2.2.2 B2.out) 0 hz
          subst eA
          obtain ⟨_, _, _, _, _, _, hcsz, _, _, _, _, _, _⟩ := k30_open hKz
          have xz : w2.cell? ⟨adz.block, adz.off + 1, none⟩ = some (.bool T.f9[0].f2.f9[0].f1) := by have h := hcellz 1 _ (by rw [hcsz]; rfl); rwa [show 0 * 13 + 1 = 1 from rfl, Addr.add, if_neg (by decide)] at h
          clear hcsz hcellz hKz
          go_wp2
          go_ret
          exact ⟨⟨_, rfl, fun hb => right_mk HN2.out HF.out.1 (kp_map HK.out (by rw [fld0 T h0]; exact ⟨P0.out, by have := P1.out; omega⟩)) HF.out.2⟩, G2.out⟩
        ·have q1 : decide ((T.f9[0].f2.f9.length : Int) = 2) = false := decide_eq_false p1
         have q1e : ((T.f9[0].f2.f9.length : Int) = 2) = False := eq_false p1
         clear p1
         go_wp2
         go_ret
         exact ⟨⟨_, rfl, fun hb => (by first | (cases hb; done) | (simp at hb; done))⟩, G2.out⟩
       ·have q0 : decide (T.f9[0].f2.f0 = 13) = false := decide_eq_false p0
        have q0e : (T.f9[0].f2.f0 = 13) = False := eq_false p0
        clear p0
        go_wp2
        go_ret
        exact ⟨⟨_, rfl, fun hb => (by first | (cases hb; done) | (simp at hb; done))⟩, G2.out⟩
     ·have HK := Aside0.mk hk
      as_aux_lemma =>
       exact absurd HG.out (by have h := HK.out; rw [h]; decide)
     ·have HK := Aside0.mk hk
      as_aux_lemma =>
       exact absurd HG.out (by have h := HK.out; rw [h]; decide)
     ·have HK := Aside0.mk hk
      as_aux_lemma =>
       exact absurd HG.out (by have h := HK.out; rw [h]; decide)
     ·have HK := Aside0.mk hk
      as_aux_lemma =>
       exact absurd HG.out (by have h := HK.out; rw [h]; decide)
     ·have HK := Aside0.mk hk
      as_aux_lemma =>
       have y0 : wr.cell? ⟨w.heap.size, 0, none⟩ = some (.int .i64 22) := (blk_cell HW.out.1 0).trans (by rw [← hk]; rfl)
       have y1 : wr.cell? ⟨w.heap.size, 1, none⟩ = some (.int .i64 T.f1) := (blk_cell HW.out.1 1).trans rfl
       have y2 : wr.cell? ⟨w.heap.size, 2, none⟩ = some (.bool T.f2) := (blk_cell HW.out.1 2).trans rfl
       have y3 : wr.cell? ⟨w.heap.size, 3, none⟩ = some (.int .i64 T.f3) := (blk_cell HW.out.1 3).trans rfl
       have y4 : wr.cell? ⟨w.heap.size, 4, none⟩ = some (.int .i64 T.f4) := (blk_cell HW.out.1 4).trans rfl
       have y5 : wr.cell? ⟨w.heap.size, 5, none⟩ = some (.int .i64 T.f5) := (blk_cell HW.out.1 5).trans rfl
       have y6 : wr.cell? ⟨w.heap.size, 6, none⟩ = some (.string T.f6) := (blk_cell HW.out.1 6).trans rfl
       have y7 : wr.cell? ⟨w.heap.size, 7, none⟩ = some (.bool T.f7) := (blk_cell HW.out.1 7).trans rfl
       have y8 : wr.cell? ⟨w.heap.size, 8, none⟩ = some (.slice A8 T.f8.length c8) := (blk_cell HW.out.1 8).trans rfl
       have y9 : wr.cell? ⟨w.heap.size, 9, none⟩ = some (.slice A9 T.f9.length c9) := (blk_cell HW.out.1 9).trans rfl
       clear hk
       obtain ⟨g8, l8, g9, l9⟩ := HC.out
       have h0 : 0 < T.f9.length := Nat.lt_of_lt_of_le (by decide : 0 < loP 22) (HK.out ▸ HF.out.1.2.2.2.2.1)
       have q0' : (0 < T.f9.length) = True := eq_true h0
       obtain ⟨ad0, cs0, eA, hK0, hcell0⟩ := at30 (Kd.C_below g9 HW.out.2) 0 h0
       subst eA
       obtain ⟨B0_10, d0_10, B0_11, d0_11, B0_12, d0_12, hcs0, m8, n8, m9, n9, _, _⟩ := k30_open hK0
       have x0_0 : wr.cell? ad0 = some (.string T.f9[0].f0) := by have h := hcell0 0 _ (by rw [hcs0]; rfl); rwa [show 0 * 13 + 0 = 0 from rfl, Addr.add_zero'] at h
       have x0_1 : wr.cell? ⟨ad0.block, ad0.off + 1, none⟩ = some (.bool T.f9[0].f1) := by have h := hcell0 1 _ (by rw [hcs0]; rfl); rwa [show 0 * 13 + 1 = 1 from rfl, Addr.add, if_neg (by decide)] at h
       have x0_2 : wr.cell? ⟨ad0.block, ad0.off + 2, none⟩ = some (.int .i64 T.f9[0].f2.f0) := by have h := hcell0 2 _ (by rw [hcs0]; rfl); rwa [show 0 * 13 + 2 = 2 from rfl, Addr.add, if_neg (by decide)] at h
       have x0_3 : wr.cell? ⟨ad0.block, ad0.off + 3, none⟩ = some (.int .i64 T.f9[0].f2.f1) := by have h := hcell0 3 _ (by rw [hcs0]; rfl); rwa [show 0 * 13 + 3 = 3 from rfl, Addr.add, if_neg (by decide)] at h
       have x0_4 : wr.cell? ⟨ad0.block, ad0.off + 4, none⟩ = some (.bool T.f9[0].f2.f2) := by have h := hcell0 4 _ (by rw [hcs0]; rfl); rwa [show 0 * 13 + 4 = 4 from rfl, Addr.add, if_neg (by decide)] at h
       have x0_5 : wr.cell? ⟨ad0.block, ad0.off + 5, none⟩ = some (.int .i64 T.f9[0].f2.f3) := by have h := hcell0 5 _ (by rw [hcs0]; rfl); rwa [show 0 * 13 + 5 = 5 from rfl, Addr.add, if_neg (by decide)] at h
       have x0_6 : wr.cell? ⟨ad0.block, ad0.off + 6, none⟩ = some (.int .i64 T.f9[0].f2.f4) := by have h := hcell0 6 _ (by rw [hcs0]; rfl); rwa [show 0 * 13 + 6 = 6 from rfl, Addr.add, if_neg (by decide)] at h
       have x0_7 : wr.cell? ⟨ad0.block, ad0.off + 7, none⟩ = some (.int .i64 T.f9[0].f2.f5) := by have h := hcell0 7 _ (by rw [hcs0]; rfl); rwa [show 0 * 13 + 7 = 7 from rfl, Addr.add, if_neg (by decide)] at h
       have x0_8 : wr.cell? ⟨ad0.block, ad0.off + 8, none⟩ = some (.string T.f9[0].f2.f6) := by have h := hcell0 8 _ (by rw [hcs0]; rfl); rwa [show 0 * 13 + 8 = 8 from rfl, Addr.add, if_neg (by decide)] at h
       have x0_9 : wr.cell? ⟨ad0.block, ad0.off + 9, none⟩ = some (.bool T.f9[0].f2.f7) := by have h := hcell0 9 _ (by rw [hcs0]; rfl); rwa [show 0 * 13 + 9 = 9 from rfl, Addr.add, if_neg (by decide)] at h
       have x0_10 : wr.cell? ⟨ad0.block, ad0.off + 10, none⟩ = some (.slice B0_10 T.f9[0].f2.f8.length d0_10) := by have h := hcell0 10 _ (by rw [hcs0]; rfl); rwa [show 0 * 13 + 10 = 10 from rfl, Addr.add, if_neg (by decide)] at h
       have x0_11 : wr.cell? ⟨ad0.block, ad0.off + 11, none⟩ = some (.slice B0_11 T.f9[0].f2.f9.length d0_11) := by have h := hcell0 11 _ (by rw [hcs0]; rfl); rwa [show 0 * 13 + 11 = 11 from rfl, Addr.add, if_neg (by decide)] at h
       have x0_12 : wr.cell? ⟨ad0.block, ad0.off + 12, none⟩ = some (.slice B0_12 T.f9[0].f3.length d0_12) := by have h := hcell0 12 _ (by rw [hcs0]; rfl); rwa [show 0 * 13 + 12 = 12 from rfl, Addr.add, if_neg (by decide)] at h
       have E0 := Aside0.mk (And.intro m8 (And.intro n8 (And.intro m9 n9)))
       clear m8 n8 m9 n9 hcs0 hcell0 hK0
       have h1 : 1 < T.f9.length := Nat.lt_of_lt_of_le (by decide : 1 < loP 22) (HK.out ▸ HF.out.1.2.2.2.2.1)
       have q1' : (1 < T.f9.length) = True := eq_true h1
       obtain ⟨ad', cs1, eA, hK1, hcell1⟩ := at30 (Kd.C_below g9 HW.out.2) 1 h1
       cases eA
       obtain ⟨B1_10, d1_10, B1_11, d1_11, B1_12, d1_12, hcs1, m8, n8, m9, n9, _, _⟩ := k30_open hK1
       have x1_0 : wr.cell? ⟨ad0.block, ad0.off + 13, none⟩ = some (.string T.f9[1].f0) := by have h := hcell1 0 _ (by rw [hcs1]; rfl); rwa [show 1 * 13 + 0 = 13 from rfl, Addr.add, if_neg (by decide)] at h
       have x1_1 : wr.cell? ⟨ad0.block, ad0.off + 14, none⟩ = some (.bool T.f9[1].f1) := by have h := hcell1 1 _ (by rw [hcs1]; rfl); rwa [show 1 * 13 + 1 = 14 from rfl, Addr.add, if_neg (by decide)] at h
       have x1_2 : wr.cell? ⟨ad0.block, ad0.off + 15, none⟩ = some (.int .i64 T.f9[1].f2.f0) := by have h := hcell1 2 _ (by rw [hcs1]; rfl); rwa [show 1 * 13 + 2 = 15 from rfl, Addr.add, if_neg (by decide)] at h
       have x1_3 : wr.cell? ⟨ad0.block, ad0.off + 16, none⟩ = some (.int .i64 T.f9[1].f2.f1) := by have h := hcell1 3 _ (by rw [hcs1]; rfl); rwa [show 1 * 13 + 3 = 16 from rfl, Addr.add, if_neg (by decide)] at h
       have x1_4 : wr.cell? ⟨ad0.block, ad0.off + 17, none⟩ = some (.bool T.f9[1].f2.f2) := by have h := hcell1 4 _ (by rw [hcs1]; rfl); rwa [show 1 * 13 + 4 = 17 from rfl, Addr.add, if_neg (by decide)] at h
       have x1_5 : wr.cell? ⟨ad0.block, ad0.off + 18, none⟩ = some (.int .i64 T.f9[1].f2.f3) := by have h := hcell1 5 _ (by rw [hcs1]; rfl); rwa [show 1 * 13 + 5 = 18 from rfl, Addr.add, if_neg (by decide)] at h
       have x1_6 : wr.cell? ⟨ad0.block, ad0.off + 19, none⟩ = some (.int .i64 T.f9[1].f2.f4) := by have h := hcell1 6 _ (by rw [hcs1]; rfl); rwa [show 1 * 13 + 6 = 19 from rfl, Addr.add, if_neg (by decide)] at h
       have x1_7 : wr.cell? ⟨ad0.block, ad0.off + 20, none⟩ = some (.int .i64 T.f9[1].f2.f5) := by have h := hcell1 7 _ (by rw [hcs1]; rfl); rwa [show 1 * 13 + 7 = 20 from rfl, Addr.add, if_neg (by decide)] at h
       have x1_8 : wr.cell? ⟨ad0.block, ad0.off + 21, none⟩ = some (.string T.f9[1].f2.f6) := by have h := hcell1 8 _ (by rw [hcs1]; rfl); rwa [show 1 * 13 + 8 = 21 from rfl, Addr.add, if_neg (by decide)] at h
       have x1_9 : wr.cell? ⟨ad0.block, ad0.off + 22, none⟩ = some (.bool T.f9[1].f2.f7) := by have h := hcell1 9 _ (by rw [hcs1]; rfl); rwa [show 1 * 13 + 9 = 22 from rfl, Addr.add, if_neg (by decide)] at h
       have x1_10 : wr.cell? ⟨ad0.block, ad0.off + 23, none⟩ = some (.slice B1_10 T.f9[1].f2.f8.length d1_10) := by have h := hcell1 10 _ (by rw [hcs1]; rfl); rwa [show 1 * 13 + 10 = 23 from rfl, Addr.add, if_neg (by decide)] at h
       have x1_11 : wr.cell? ⟨ad0.block, ad0.off + 24, none⟩ = some (.slice B1_11 T.f9[1].f2.f9.length d1_11) := by have h := hcell1 11 _ (by rw [hcs1]; rfl); rwa [show 1 * 13 + 11 = 24 from rfl, Addr.add, if_neg (by decide)] at h
       have x1_12 : wr.cell? ⟨ad0.block, ad0.off + 25, none⟩ = some (.slice B1_12 T.f9[1].f3.length d1_12) := by have h := hcell1 12 _ (by rw [hcs1]; rfl); rwa [show 1 * 13 + 12 = 25 from rfl, Addr.add, if_neg (by decide)] at h
       have E1 := Aside0.mk (And.intro m8 (And.intro n8 (And.intro m9 n9)))
       clear m8 n8 m9 n9 hcs1 hcell1 hK1
       clear g8 l8 g9 l9
       go_upto_region 35 with fail
       refine wp_at ?_
       intro w2 hw2
       have b2 : Below wr.heap.size wr w2 := by rw [hw2]; exact (Below.refl _ _).alloc (Nat.le_refl _) _
       have k2 : w2.heap[wr.heap.size]? = some (.cells #[.int .i64 T.f9[0].f2.f0, .int .i64 T.f9[0].f2.f1, .bool T.f9[0].f2.f2, .int .i64 T.f9[0].f2.f3, .int .i64 T.f9[0].f2.f4, .int .i64 T.f9[0].f2.f5, .string T.f9[0].f2.f6, .bool T.f9[0].f2.f7, .slice B0_10 T.f9[0].f2.f8.length d0_10, .slice B0_11 T.f9[0].f2.f9.length d0_11] 28 (0, 0)) := by rw [hw2]; exact blk_new _ _
       have G2 := Aside0.mk (below_step HW.out.2 b2)
       clear y0 y1 y2 y3 y4 y5 y6 y7 y8 y9
       have hk := HK.out
       have y0 : w2.cell? ⟨w.heap.size, 0, none⟩ = some (.int .i64 22) := (blk_cell (blk_below HW.out.1 b2) 0).trans (by rw [← hk]; rfl)
       have y1 : w2.cell? ⟨w.heap.size, 1, none⟩ = some (.int .i64 T.f1) := (blk_cell (blk_below HW.out.1 b2) 1).trans rfl
       have y2 : w2.cell? ⟨w.heap.size, 2, none⟩ = some (.bool T.f2) := (blk_cell (blk_below HW.out.1 b2) 2).trans rfl
       have y3 : w2.cell? ⟨w.heap.size, 3, none⟩ = some (.int .i64 T.f3) := (blk_cell (blk_below HW.out.1 b2) 3).trans rfl
       have y4 : w2.cell? ⟨w.heap.size, 4, none⟩ = some (.int .i64 T.f4) := (blk_cell (blk_below HW.out.1 b2) 4).trans rfl
       have y5 : w2.cell? ⟨w.heap.size, 5, none⟩ = some (.int .i64 T.f5) := (blk_cell (blk_below HW.out.1 b2) 5).trans rfl
       have y6 : w2.cell? ⟨w.heap.size, 6, none⟩ = some (.string T.f6) := (blk_cell (blk_below HW.out.1 b2) 6).trans rfl
       have y7 : w2.cell? ⟨w.heap.size, 7, none⟩ = some (.bool T.f7) := (blk_cell (blk_below HW.out.1 b2) 7).trans rfl
       have y8 : w2.cell? ⟨w.heap.size, 8, none⟩ = some (.slice A8 T.f8.length c8) := (blk_cell (blk_below HW.out.1 b2) 8).trans rfl
       have y9 : w2.cell? ⟨w.heap.size, 9, none⟩ = some (.slice (some ad0) T.f9.length c9) := (blk_cell (blk_below HW.out.1 b2) 9).trans rfl
       clear hk
       replace x0_0 := pw_cell_below b2 x0_0
       replace x0_1 := pw_cell_below b2 x0_1
       replace x0_2 := pw_cell_below b2 x0_2
       replace x0_3 := pw_cell_below b2 x0_3
       replace x0_4 := pw_cell_below b2 x0_4
       replace x0_5 := pw_cell_below b2 x0_5
       replace x0_6 := pw_cell_below b2 x0_6
       replace x0_7 := pw_cell_below b2 x0_7
       replace x0_8 := pw_cell_below b2 x0_8
       replace x0_9 := pw_cell_below b2 x0_9
       replace x0_10 := pw_cell_below b2 x0_10
       replace x0_11 := pw_cell_below b2 x0_11
       replace x0_12 := pw_cell_below b2 x0_12
       replace x1_0 := pw_cell_below b2 x1_0
       replace x1_1 := pw_cell_below b2 x1_1
       replace x1_2 := pw_cell_below b2 x1_2
       replace x1_3 := pw_cell_below b2 x1_3
       replace x1_4 := pw_cell_below b2 x1_4
       replace x1_5 := pw_cell_below b2 x1_5
       replace x1_6 := pw_cell_below b2 x1_6
       replace x1_7 := pw_cell_below b2 x1_7
       replace x1_8 := pw_cell_below b2 x1_8
       replace x1_9 := pw_cell_below b2 x1_9
       replace x1_10 := pw_cell_below b2 x1_10
       replace x1_11 := pw_cell_below b2 x1_11
       replace x1_12 := pw_cell_below b2 x1_12
       obtain ⟨v0, v1, v2, v3, v4, v5, v6, v7, v8, v9⟩ := cb10 k2
       have B2 := Aside0.mk b2
       clear b2 k2 hw2
       by_cases p0 : T.f9[0].f2.f0 = 2
       ·have q0 : decide (T.f9[0].f2.f0 = 2) = true := decide_eq_true p0
        have q0e : (T.f9[0].f2.f0 = 2) = True := eq_true p0
        rw [p0] at v0
        have P0 := Aside0.mk p0
        clear p0
        cases ev2 : T.f9[0].f2.f2 with
        | false =>
         rw [ev2] at v2
         go_wp2
         go_ret
         exact ⟨⟨_, rfl, fun hb => (by first | (cases hb; done) | (simp at hb; done))⟩, G2.out⟩
        | true =>
         rw [ev2] at v2
         by_cases p2 : (16 : Int) ≤ T.f9[0].f2.f1
         ·have q2 : decide ((16 : Int) ≤ T.f9[0].f2.f1) = true := decide_eq_true p2
          have q2e : ((16 : Int) ≤ T.f9[0].f2.f1) = True := eq_true p2
          have P2 := Aside0.mk p2
          clear p2
          cases ex0_1 : T.f9[0].f1 with
          | true =>
           rw [ex0_1] at x0_1
           go_wp2
           go_ret
           exact ⟨⟨_, rfl, fun hb => (by first | (cases hb; done) | (simp at hb; done))⟩, G2.out⟩
          | false =>
           rw [ex0_1] at x0_1
           go_wp2_with (go_at_call 60; fail)
           clear x0_0 x0_1 x0_2 x0_3 x0_4 x0_5 x0_6 x0_7 x0_8 x0_9 x0_10 x0_11 x0_12
           clear x1_0 x1_1 x1_2 x1_3 x1_4 x1_5 x1_6 x1_7 x1_8 x1_9 x1_10 x1_11 x1_12
           refine calls_at ?_
           intro w4 hw2
           have k2 : w4.heap[w2.heap.size]? = some (.cells #[.int .i64 14, .int .i64 22] 3 (0, 0)) := by rw [hw2]; exact blk_new _ _
           have b2 : Below w2.heap.size w2 w4 := by rw [hw2]; exact (Below.refl _ _).alloc (Nat.le_refl _) _
           have b4 : Below wr.heap.size wr w4 := below_step B2.out b2
           clear hw2
           obtain ⟨k0, hk0⟩ := hk_ok [14, 22] (by decide) n' _ (HF.out.2 1 h1)
           obtain ⟨r, hr⟩ := hk0 k0 (Nat.le_refl _)
           refine (spec_HasKind.calls k0 _ _ _ _ _ _ _ _ _ _ _ _ _ _ (some ⟨w2.heap.size, 0, none⟩) 2 [14, 22] r w4 (Kd.C_below E1.out.2.1 b4) E1.out.1 (Kd.C_below E1.out.2.2.2 b4) E1.out.2.2.1 (lit_C (by decide) k2) (Nat.le_refl _) hr).mono ?_
           clear hr hk0
           rintro e w3 ⟨rfl, hb3⟩
           have H3 := Aside0.mk (below_step (below_step HW.out.2 b4) hb3)
           clear hb3 b2 b4 k2
           go_wp2
           go_ret
           exact ⟨⟨_, rfl, fun hb => right_mk HN2.out HF.out.1 (kp_plain (by have := HK.out; omega)) HF.out.2⟩, H3.out⟩
         ·have q2 : decide ((16 : Int) ≤ T.f9[0].f2.f1) = false := decide_eq_false p2
          have q2e : ((16 : Int) ≤ T.f9[0].f2.f1) = False := eq_false p2
          clear p2
          go_wp2
          go_ret
          exact ⟨⟨_, rfl, fun hb => (by first | (cases hb; done) | (simp at hb; done))⟩, G2.out⟩
       ·have q0 : decide (T.f9[0].f2.f0 = 2) = false := decide_eq_false p0
        have q0e : (T.f9[0].f2.f0 = 2) = False := eq_false p0
        clear p0
        go_wp2
        go_ret
        exact ⟨⟨_, rfl, fun hb => (by first | (cases hb; done) | (simp at hb; done))⟩, G2.out⟩
     ·have HK := Aside0.mk hk
      as_aux_lemma =>
       exact absurd HG.out (by have h := HK.out; rw [h]; decide)
     ·have HK := Aside0.mk hk
      as_aux_lemma =>
       exact absurd HG.out (by have h := HK.out; rw [h]; decide)
     ·have HK := Aside0.mk hk
      as_aux_lemma =>
       exact absurd HG.out (by have h := HK.out; rw [h]; decide)
     ·have HK := Aside0.mk hk
      as_aux_lemma =>
       exact absurd HG.out (by have h := HK.out; rw [h]; decide)
     ·have HK := Aside0.mk hk
      as_aux_lemma =>
       exact absurd HG.out (by have h := HK.out; rw [h]; decide)
end Go.Proofs.YteebgnhhjlgnjaaGreatDoor.V
