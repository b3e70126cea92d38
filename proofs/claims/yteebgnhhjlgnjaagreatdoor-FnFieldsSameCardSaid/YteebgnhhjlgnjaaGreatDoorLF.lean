/- laws.field and laws.FnFieldsSame. -/
import Derived.Test.YteebgnhhjlgnjaaGreatDoorFS
import Derived.Test.YteebgnhhjlgnjaaGreatDoorRT
import Derived.Test.YteebgnhhjlgnjaaGreatDoorTV
namespace Go.Proofs.YteebgnhhjlgnjaaGreatDoor.V
open Go.RowKit Go.Proofs.YteebgnhhjlgnjaaGreatDoorW.PrintWords Go.Proofs.YteebgnhhjlgnjaaGreatDoorW.PrintLast Go.Proofs.YteebgnhhjlgnjaaGreatDoorW.PrintMore
set_option maxHeartbeats 40000000
set_option maxRecDepth 100000
set_option linter.unusedVariables false
set_option linter.unusedSimpArgs false
theorem fits37 (a b : ByteArray) (w : World) : Calls Tryz.prog 37 #[.agg #[.string a, .string b]] w fun e w' => (∃ b, e = .returned (.bool b) ∧ True) ∧ Below w.heap.size w w' := by
 obtain ⟨R, hR⟩ : ∃ R : Ending → Prop, R = fun e => (∃ b, e = .returned (.bool b) ∧ True) := ⟨_, rfl⟩
 rw [show (fun (e : Ending) (w' : World) => (∃ b, e = .returned (.bool b) ∧ True) ∧ Below w.heap.size w w') = (fun e w' => R e ∧ Below w.heap.size w w') from by rw [hR]]
 have HR := Aside0.mk (show ∀ b, R (.returned (.bool b)) from fun b => by rw [hR]; exact ⟨b, rfl, trivial⟩)
 clear hR
 by_cases h : (2147483647 : Int) < (a.size : Int)
 ·have p1 : decide ((2147483647 : Int) < (a.size : Int)) = true := decide_eq_true h
  have p2 : ((2147483647 : Int) < (a.size : Int)) = True := eq_true h
  clear h
  go_enter Tryz.func37, Tryz.ntmps37
  go_wp2
  go_ret
  exact ⟨HR.out _, bl⟩
 have p1 : decide ((2147483647 : Int) < (a.size : Int)) = false := decide_eq_false h
 have p2 : ((2147483647 : Int) < (a.size : Int)) = False := eq_false h
 clear h
 by_cases h : (2147483647 : Int) < (b.size : Int)
 ·have q1 : decide ((2147483647 : Int) < (b.size : Int)) = true := decide_eq_true h
  have q2 : ((2147483647 : Int) < (b.size : Int)) = True := eq_true h
  clear h
  go_enter Tryz.func37, Tryz.ntmps37
  go_wp2
  go_ret
  exact ⟨HR.out _, bl⟩
 have q1 : decide ((2147483647 : Int) < (b.size : Int)) = false := decide_eq_false h
 have q2 : ((2147483647 : Int) < (b.size : Int)) = False := eq_false h
 clear h
 go_enter Tryz.func37, Tryz.ntmps37
 go_wp2
 go_ret
 exact ⟨HR.out _, bl⟩
theorem fits20 (ms : List S73) (A : Option Addr) (c : Nat) (w : World) (hC : Kd.C k73 w A ms.length ms) : Calls Tryz.prog 20 #[.slice A ms.length c] w fun e w' => (∃ b, e = .returned (.bool b) ∧ True) ∧ Below w.heap.size w w' := by
 have HC := Aside0.mk hC
 clear hC
 obtain ⟨R, hR⟩ : ∃ R : Ending → Prop, R = fun e => (∃ b, e = .returned (.bool b) ∧ True) := ⟨_, rfl⟩
 rw [show (fun (e : Ending) (w' : World) => (∃ b, e = .returned (.bool b) ∧ True) ∧ Below w.heap.size w w') = (fun e w' => R e ∧ Below w.heap.size w w') from by rw [hR]]
 have HR := Aside0.mk (show ∀ b, R (.returned (.bool b)) from fun b => by rw [hR]; exact ⟨b, rfl, trivial⟩)
 clear hR
 by_cases h : (2147483647 : Int) < (ms.length : Int)
 ·have p1 : decide ((2147483647 : Int) < (ms.length : Int)) = true := decide_eq_true h
  have p2 : ((2147483647 : Int) < (ms.length : Int)) = True := eq_true h
  clear h
  go_enter Tryz.func20, Tryz.ntmps20
  go_wp2
  go_ret
  exact ⟨HR.out _, bl⟩
 have p1 : decide ((2147483647 : Int) < (ms.length : Int)) = false := decide_eq_false h
 have p2 : ((2147483647 : Int) < (ms.length : Int)) = False := eq_false h
 have HL := Aside0.mk h
 clear h
 go_enter Tryz.func20, Tryz.ntmps20
 go_wp2
 go_loopg [10] ms.length (fun kq v10 wr => ∃ i : Nat, v10 = .int .i64 (i : Int) ∧ Aside0 (i + kq = ms.length ∧ Below w.heap.size w wr))
 case atStart => exact ⟨0, rfl, ⟨⟨by omega, Below.refl _ _⟩⟩⟩
 case round =>
  obtain ⟨i, rfl, HQ⟩ := hrel
  by_cases hi : i < ms.length
  rotate_left
  ·have hd : decide ((i : Int) < (ms.length : Int)) = false := by simpa using hi
   go_wp2
   go_ret
   exact ⟨HR.out _, HQ.out.2⟩
  have hd : decide ((i : Int) < (ms.length : Int)) = true := by simpa using hi
  have e1 : wrap64 ((i : Int) + 1) = ((i + 1 : Nat) : Int) := by have := HL.out; rw [w64_id _ (by omega) (by omega)]; omega
  have EW := Aside0.mk e1
  clear e1
  obtain ⟨ad, rfl, h0, h1⟩ := at_T73 HC.out (i : Int) (by omega) (by omega)
  rw [Int.toNat_natCast] at h0 h1
  have y0 := pw_cell_below HQ.out.2 h0
  have y1 := pw_cell_below HQ.out.2 h1
  have qi : (i < ms.length) = True := eq_true hi
  have qi' : ((i : Int) < (ms.length : Int)) = True := eq_true (by omega)
  clear h0 h1
  go_wp2_with (go_at_call 37; fail)
  refine calls_at ?_
  intro w1 hw1
  have b1 : Below wr.heap.size wr w1 := by rw [hw1]; repeat (first | exact Below.refl _ _ | apply b1_ | apply b2_ | apply b3_)
  clear hw1
  refine (fits37 _ _ w1).mono ?_
  rintro e w2 ⟨⟨r, rfl, _⟩, hb2⟩
  have HB := Aside0.mk (below_step HQ.out.2 (below_step b1 hb2))
  clear b1 hb2 y0 y1
  cases r with
  | false =>
   go_wp2
   go_ret
   exact ⟨HR.out _, HB.out⟩
  | true =>
   go_wp2
   go_roundg (ms.length - (i + 1))
   case measure => have := HQ.out.1; omega
   case rel => exact ⟨i + 1, by first | (rw [EW.out]) | go_num, ⟨⟨by have := HQ.out.1; omega, HB.out⟩⟩⟩
theorem fits7 (n : ByteArray) (o : Bool) (T : S28) (ms : List S73) (A10 A11 A12 : Option Addr) (c10 c11 c12 : Nat) (w : World) (hC : Kd.C k73 w A12 ms.length ms) : Calls Tryz.prog 7 #[.agg #[.string n, .bool o, .int .i64 T.f0, .int .i64 T.f1, .bool T.f2, .int .i64 T.f3, .int .i64 T.f4, .int .i64 T.f5, .string T.f6, .bool T.f7, .slice A10 T.f8.length c10, .slice A11 T.f9.length c11, .slice A12 ms.length c12]] w fun e w' => (∃ b, e = .returned (.bool b) ∧ True) ∧ Below w.heap.size w w' := by
 have HC := Aside0.mk hC
 clear hC
 obtain ⟨R, hR⟩ : ∃ R : Ending → Prop, R = fun e => (∃ b, e = .returned (.bool b) ∧ True) := ⟨_, rfl⟩
 rw [show (fun (e : Ending) (w' : World) => (∃ b, e = .returned (.bool b) ∧ True) ∧ Below w.heap.size w w') = (fun e w' => R e ∧ Below w.heap.size w w') from by rw [hR]]
 have HR := Aside0.mk (show ∀ b, R (.returned (.bool b)) from fun b => by rw [hR]; exact ⟨b, rfl, trivial⟩)
 clear hR
 by_cases h : (2147483647 : Int) < (n.size : Int)
 ·have p1 : decide ((2147483647 : Int) < (n.size : Int)) = true := decide_eq_true h
  have p2 : ((2147483647 : Int) < (n.size : Int)) = True := eq_true h
  clear h
  go_enter Tryz.func7, Tryz.ntmps7
  go_wp2
  go_ret
  exact ⟨HR.out _, bl⟩
 have p1 : decide ((2147483647 : Int) < (n.size : Int)) = false := decide_eq_false h
 have p2 : ((2147483647 : Int) < (n.size : Int)) = False := eq_false h
 clear h
 go_enter Tryz.func7, Tryz.ntmps7
 go_wp2_with (go_at_call 20; fail)
 refine calls_at ?_
 intro w1 hw1
 have b1 : Below w.heap.size w w1 := by rw [hw1]; repeat (first | exact Below.refl _ _ | apply b1_ | apply b2_ | apply b3_)
 clear hw1
 refine (fits20 ms A12 c12 w1 (Kd.C_below HC.out b1)).mono ?_
 rintro e w2 ⟨⟨r, rfl, _⟩, hb2⟩
 have HB := Aside0.mk (below_step b1 hb2)
 clear b1 hb2
 cases r with
 | false =>
  go_wp2
  go_ret
  exact ⟨HR.out _, HB.out⟩
 | true =>
  go_wp2
  go_ret
  exact ⟨HR.out _, HB.out⟩
theorem field9 (n : ByteArray) (o : Bool) (T : S28) (ms : List S73) (A10 A11 A12 : Option Addr) (c10 c11 c12 : Nat) (w : World) (hT : Tabs w) (hS : SzT T) (hn : n.size ≤ 9223372036854775807) (g8 : Kd.C (Kd.int .i64) w A10 T.f8.length T.f8) (l8 : T.f8.length ≤ c10) (g9 : Kd.C k30 w A11 T.f9.length T.f9) (l9 : T.f9.length ≤ c11) :
 Calls Tryz.prog 9 #[.agg #[.string n, .bool o, .int .i64 T.f0, .int .i64 T.f1, .bool T.f2, .int .i64 T.f3, .int .i64 T.f4, .int .i64 T.f5, .string T.f6, .bool T.f7, .slice A10 T.f8.length c10, .slice A11 T.f9.length c11, .slice A12 ms.length c12]] w fun e w' => (∃ b, e = .returned (.bool b) ∧ (b = true → AskedP T ∧ ms = [])) ∧ Below w.heap.size w w' := by
 have HC := Aside0.mk (And.intro hT (And.intro hS (And.intro hn (And.intro g8 (And.intro l8 (And.intro g9 l9))))))
 clear hT hS hn g8 l8 g9 l9
 obtain ⟨R, hR⟩ : ∃ R : Ending → Prop, R = fun e => (∃ b, e = .returned (.bool b) ∧ (b = true → AskedP T ∧ ms = [])) := ⟨_, rfl⟩
 rw [show (fun (e : Ending) (w' : World) => (∃ b, e = .returned (.bool b) ∧ (b = true → AskedP T ∧ ms = [])) ∧ Below w.heap.size w w') = (fun e w' => R e ∧ Below w.heap.size w w') from by rw [hR]]
 have HN := Aside0.mk (show R (.returned (.bool false)) from by rw [hR]; exact ⟨false, rfl, fun e => (by cases e)⟩)
 have HY := Aside0.mk (show AskedP T → ms = [] → ∀ b, R (.returned (.bool b)) from fun h1 h2 b => by rw [hR]; exact ⟨b, rfl, fun _ => ⟨h1, h2⟩⟩)
 clear hR
 go_enter Tryz.func9, Tryz.ntmps9
 go_wp2_with (go_at_call 16; fail)
 refine calls_at ?_
 intro w1 hw1
 have b1 : Below w.heap.size w w1 := by rw [hw1]; repeat (first | exact Below.refl _ _ | apply b1_ | apply b2_ | apply b3_)
 have k1 : w1.heap[w.heap.size]? = some (.cells #[.string n, .bool o, .int .i64 T.f0, .int .i64 T.f1, .bool T.f2, .int .i64 T.f3, .int .i64 T.f4, .int .i64 T.f5, .string T.f6, .bool T.f7, .slice A10 T.f8.length c10, .slice A11 T.f9.length c11, .slice A12 ms.length c12] 30 (0, 0)) := by rw [hw1]; first | exact blk_new _ _ | exact blk_drew_ (blk_new _ _)
 clear hw1
 refine (asked16 T w1 A10 A11 c10 c11 (HC.out.1.below (B := 0) b1) HC.out.2.1 (Kd.C_below HC.out.2.2.2.1 b1) HC.out.2.2.2.2.1 (Kd.C_below HC.out.2.2.2.2.2.1 b1) HC.out.2.2.2.2.2.2).mono ?_
 rintro e w2 ⟨⟨r, rfl, hr⟩, hb2⟩
 have HA := Aside0.mk hr
 have HB := Aside0.mk (And.intro (below_step b1 hb2) (blk_below k1 hb2))
 have y0 : w2.cell? ⟨w.heap.size, 0, none⟩ = some (.string n) := (blk_cell HB.out.2 0).trans rfl
 have y12 : w2.cell? ⟨w.heap.size, 12, none⟩ = some (.slice A12 ms.length c12) := (blk_cell HB.out.2 12).trans rfl
 clear hr b1 k1 hb2
 cases r with
 | false =>
  go_wp2
  go_ret
  exact ⟨HN.out, HB.out.1⟩
 | true =>
  by_cases hm : ms = []
  rotate_left
  ·have hm2 : ms.length ≠ 0 := fun h => hm (List.length_eq_zero_iff.mp h)
   have q1 : ((ms.length : Int) == 0) = false := by rw [beq_eq_false_iff_ne]; omega
   have q2 : ((ms.length : Int) = 0) = False := eq_false (by omega)
   clear hm hm2
   go_wp2
   go_ret
   exact ⟨HN.out, HB.out.1⟩
  subst hm
  have HA2 := Aside0.mk (HA.out (by first | rfl | trivial))
  go_wp2_with (go_at_call 21; fail)
  refine (well21 n w2 HC.out.2.2.1 (HC.out.1.below (B := 0) HB.out.1)).mono ?_
  rintro e w3 ⟨rfl, hb3⟩
  have HB3 := Aside0.mk (below_step HB.out.1 hb3)
  have z0 : w3.cell? ⟨w.heap.size, 0, none⟩ = some (.string n) := pw_cell_below hb3 y0
  clear hb3 y0 y12
  cases hv : Lib.validD n.data.toList with
  | false =>
   go_wp2
   go_ret
   exact ⟨HN.out, HB3.out⟩
  | true =>
   go_wp2
   go_ret
   exact ⟨HY.out HA2.out (by first | rfl | trivial) _, HB3.out⟩
def vf : Value := .agg #[.string ⟨#[97]⟩, .bool false, .int .i64 6, .int .i64 0, .bool false, .int .i64 0, .int .i64 0, .int .i64 0, .string emp, .bool false, .slice none 0 0, .slice none 0 0, .slice none 0 0]
theorem ff13 (w : World) : Calls Tryz.prog 13 #[vf, vf] w fun e w' => e = .returned (.tuple #[.bool true, .bool true]) ∧ Below w.heap.size w w' :=
 (fields13 1 ⟨#[97]⟩ ⟨#[97]⟩ false false tBool tBool _ _ td_bool td_bool w none none none none none none 0 0 0 0 0 0 (Kd.C_nil _ _) (Kd.C_nil _ _) (Kd.C_nil _ _) (Kd.C_nil _ _)).mono fun e w' h => by
  obtain ⟨⟨b, rfl, hb⟩, h2⟩ := h
  rw [hb.mpr ⟨rfl, rfl, rfl⟩]
  exact ⟨rfl, h2⟩
theorem law4 (n n' : ByteArray) (o o' : Bool) (T T' : S28) (ms ms' : List S73) (w : World) (A10 A11 A12 A10' A11' A12' : Option Addr) (c10 c11 c12 c10' c11' c12' : Nat) (hT : Tabs w) (hS : SzT T) (hS' : SzT T') (hn : n.size ≤ 9223372036854775807) (hn' : n'.size ≤ 9223372036854775807) (g10 : Kd.C (Kd.int .i64) w A10 T.f8.length T.f8) (l10 : T.f8.length ≤ c10) (g11 : Kd.C k30 w A11 T.f9.length T.f9) (l11 : T.f9.length ≤ c11) (g12 : Kd.C k73 w A12 ms.length ms) (g10' : Kd.C (Kd.int .i64) w A10' T'.f8.length T'.f8) (l10' : T'.f8.length ≤ c10') (g11' : Kd.C k30 w A11' T'.f9.length T'.f9) (l11' : T'.f9.length ≤ c11') (g12' : Kd.C k73 w A12' ms'.length ms') :
 Calls Tryz.prog 4 #[.agg #[.string n, .bool o, .int .i64 T.f0, .int .i64 T.f1, .bool T.f2, .int .i64 T.f3, .int .i64 T.f4, .int .i64 T.f5, .string T.f6, .bool T.f7, .slice A10 T.f8.length c10, .slice A11 T.f9.length c11, .slice A12 ms.length c12], .agg #[.string n', .bool o', .int .i64 T'.f0, .int .i64 T'.f1, .bool T'.f2, .int .i64 T'.f3, .int .i64 T'.f4, .int .i64 T'.f5, .string T'.f6, .bool T'.f7, .slice A10' T'.f8.length c10', .slice A11' T'.f9.length c11', .slice A12' ms'.length c12']] w fun e w' => e = .returned (.bool true) ∧ Below w.heap.size w w' := by
 have HT := Aside0.mk (And.intro hT (And.intro hS (And.intro hS' (And.intro hn hn'))))
 have HC := Aside0.mk (And.intro g10 (And.intro l10 (And.intro g11 (And.intro l11 g12))))
 have HC' := Aside0.mk (And.intro g10' (And.intro l10' (And.intro g11' (And.intro l11' g12'))))
 clear hT hS hS' hn hn' g10 l10 g11 l11 g12 g10' l10' g11' l11' g12'
 go_enter Tryz.func4, Tryz.ntmps4
 go_wp2_with (go_at_call 7; fail)
 refine calls_at ?_
 intro w1 hw1
 have b1 : Below w.heap.size w w1 := by rw [hw1]; repeat (first | exact Below.refl _ _ | apply b1_ | apply b2_ | apply b3_)
 have k1 : w1.heap[w.heap.size]? = some (.cells #[.string n, .bool o, .int .i64 T.f0, .int .i64 T.f1, .bool T.f2, .int .i64 T.f3, .int .i64 T.f4, .int .i64 T.f5, .string T.f6, .bool T.f7, .slice A10 T.f8.length c10, .slice A11 T.f9.length c11, .slice A12 ms.length c12] 30 (0, 0)) := by rw [hw1]; exact blk_alloc_ (blk_new _ _)
 have k2 : w1.heap[w.heap.size + 1]? = some (.cells #[.string n', .bool o', .int .i64 T'.f0, .int .i64 T'.f1, .bool T'.f2, .int .i64 T'.f3, .int .i64 T'.f4, .int .i64 T'.f5, .string T'.f6, .bool T'.f7, .slice A10' T'.f8.length c10', .slice A11' T'.f9.length c11', .slice A12' ms'.length c12'] 30 (0, 0)) := by rw [hw1]; exact blk_new_at (by rw [alloc_size_])
 clear hw1
 have HB0 := Aside0.mk (And.intro b1 (And.intro k1 k2))
 clear b1 k1 k2
 refine (fits7 n o T ms A10 A11 A12 c10 c11 c12 w1 (Kd.C_below HC.out.2.2.2.2 HB0.out.1)).mono ?_
 rintro e w2 ⟨⟨b1, rfl, _⟩, hb⟩
 have HB1 := Aside0.mk (And.intro (below_step HB0.out.1 hb) (And.intro (blk_below HB0.out.2.1 hb) (blk_below HB0.out.2.2 hb)))
 clear hb
 obtain ⟨y0, y1, y2, y3, y4, y5, y6, y7, y8, y9, y10, y11, y12⟩ := cb13 (HB1.out.2.1)
 obtain ⟨z0, z1, z2, z3, z4, z5, z6, z7, z8, z9, z10, z11, z12⟩ := cb13 (HB1.out.2.2)
 cases b1 with
 | false =>
  go_wp2
  go_ret
  exact ⟨rfl, HB1.out.1⟩
 | true =>
  go_wp2_with (go_at_call 7; fail)
  refine (fits7 n' o' T' ms' A10' A11' A12' c10' c11' c12' w2 (Kd.C_below HC'.out.2.2.2.2 HB1.out.1)).mono ?_
  rintro e w3 ⟨⟨b2, rfl, _⟩, hb⟩
  have HB2 := Aside0.mk (And.intro (below_step HB1.out.1 hb) (And.intro (blk_below HB1.out.2.1 hb) (blk_below HB1.out.2.2 hb)))
  clear hb y0 z0 y1 z1 y2 z2 y3 z3 y4 z4 y5 z5 y6 z6 y7 z7 y8 z8 y9 z9 y10 z10 y11 z11 y12 z12
  obtain ⟨y0, y1, y2, y3, y4, y5, y6, y7, y8, y9, y10, y11, y12⟩ := cb13 (HB2.out.2.1)
  obtain ⟨z0, z1, z2, z3, z4, z5, z6, z7, z8, z9, z10, z11, z12⟩ := cb13 (HB2.out.2.2)
  cases b2 with
  | false =>
   go_wp2
   go_ret
   exact ⟨rfl, HB2.out.1⟩
  | true =>
   go_wp2_with (go_at_call 13; fail)
   refine calls_at ?_
   intro v1 hv1
   have bv : Below w3.heap.size w3 v1 := by rw [hv1]; repeat (first | exact Below.refl _ _ | apply b1_ | apply b2_ | apply b3_)
   clear hv1
   have HV := Aside0.mk bv
   clear bv y0 z0 y1 z1 y2 z2 y3 z3 y4 z4 y5 z5 y6 z6 y7 z7 y8 z8 y9 z9 y10 z10 y11 z11 y12 z12
   refine (ff13 v1).mono ?_
   rintro e v2 ⟨rfl, hb⟩
   have HB3 := Aside0.mk (And.intro (below_step (below_step HB2.out.1 HV.out) hb) (And.intro (blk_below (blk_below HB2.out.2.1 HV.out) hb) (blk_below (blk_below HB2.out.2.2 HV.out) hb)))
   clear hb
   obtain ⟨y0, y1, y2, y3, y4, y5, y6, y7, y8, y9, y10, y11, y12⟩ := cb13 (HB3.out.2.1)
   obtain ⟨z0, z1, z2, z3, z4, z5, z6, z7, z8, z9, z10, z11, z12⟩ := cb13 (HB3.out.2.2)
   go_wp2_with (go_at_call 9; fail)
   refine (field9 n o T ms A10 A11 A12 c10 c11 c12 v2 (HT.out.1.below (B := 0) HB3.out.1) HT.out.2.1 HT.out.2.2.2.1 (Kd.C_below HC.out.1 HB3.out.1) HC.out.2.1 (Kd.C_below HC.out.2.2.1 HB3.out.1) HC.out.2.2.2.1).mono ?_
   rintro e w5 ⟨⟨b3, rfl, ha⟩, hb⟩
   have HB4 := Aside0.mk (And.intro (below_step HB3.out.1 hb) (And.intro (blk_below HB3.out.2.1 hb) (blk_below HB3.out.2.2 hb)))
   clear hb y0 z0 y1 z1 y2 z2 y3 z3 y4 z4 y5 z5 y6 z6 y7 z7 y8 z8 y9 z9 y10 z10 y11 z11 y12 z12
   have HA := Aside0.mk ha
   clear ha
   obtain ⟨y0, y1, y2, y3, y4, y5, y6, y7, y8, y9, y10, y11, y12⟩ := cb13 (HB4.out.2.1)
   obtain ⟨z0, z1, z2, z3, z4, z5, z6, z7, z8, z9, z10, z11, z12⟩ := cb13 (HB4.out.2.2)
   cases b3 with
   | false =>
    go_wp2
    go_ret
    exact ⟨rfl, HB4.out.1⟩
   | true =>
    go_wp2_with (go_at_call 9; fail)
    refine (field9 n' o' T' ms' A10' A11' A12' c10' c11' c12' w5 (HT.out.1.below (B := 0) HB4.out.1) HT.out.2.2.1 HT.out.2.2.2.2 (Kd.C_below HC'.out.1 HB4.out.1) HC'.out.2.1 (Kd.C_below HC'.out.2.2.1 HB4.out.1) HC'.out.2.2.2.1).mono ?_
    rintro e w6 ⟨⟨b4, rfl, ha'⟩, hb⟩
    have HB5 := Aside0.mk (And.intro (below_step HB4.out.1 hb) (And.intro (blk_below HB4.out.2.1 hb) (blk_below HB4.out.2.2 hb)))
    clear hb y0 z0 y1 z1 y2 z2 y3 z3 y4 z4 y5 z5 y6 z6 y7 z7 y8 z8 y9 z9 y10 z10 y11 z11 y12 z12
    have HA' := Aside0.mk ha'
    clear ha'
    obtain ⟨y0, y1, y2, y3, y4, y5, y6, y7, y8, y9, y10, y11, y12⟩ := cb13 (HB5.out.2.1)
    obtain ⟨z0, z1, z2, z3, z4, z5, z6, z7, z8, z9, z10, z11, z12⟩ := cb13 (HB5.out.2.2)
    cases b4 with
    | false =>
     go_wp2
     go_ret
     exact ⟨rfl, HB5.out.1⟩
    | true =>
     obtain ⟨⟨hr, hu⟩, rfl⟩ := HA.out (by first | rfl | trivial)
     obtain ⟨⟨hr', hu'⟩, rfl⟩ := HA'.out (by first | rfl | trivial)
     obtain ⟨d, d', hd, hd', hdd⟩ := td_two hr hu hr' hu'
     have HD := Aside0.mk (And.intro hd (And.intro hd' hdd))
     clear hr hu hr' hu' hd hd' hdd
     go_wp2_with (go_at_call 13; fail)
     refine (fields13 4 n n' o o' T T' d d' HD.out.1 HD.out.2.1 w6 A10 A11 A12 A10' A11' A12' c10 c11 c12 c10' c11' c12' (Kd.C_below HC.out.1 HB5.out.1) (Kd.C_below HC.out.2.2.1 HB5.out.1) (Kd.C_below HC'.out.1 HB5.out.1) (Kd.C_below HC'.out.2.2.1 HB5.out.1)).mono ?_
     rintro e w7 ⟨⟨r, rfl, hr⟩, hb⟩
     have HB6 := Aside0.mk (And.intro (below_step HB5.out.1 hb) (And.intro (blk_below HB5.out.2.1 hb) (blk_below HB5.out.2.2 hb)))
     clear hb y0 z0 y1 z1 y2 z2 y3 z3 y4 z4 y5 z5 y6 z6 y7 z7 y8 z8 y9 z9 y10 z10 y11 z11 y12 z12
     have HRR := Aside0.mk hr
     clear hr
     obtain ⟨y0, y1, y2, y3, y4, y5, y6, y7, y8, y9, y10, y11, y12⟩ := cb13 (HB6.out.2.1)
     obtain ⟨z0, z1, z2, z3, z4, z5, z6, z7, z8, z9, z10, z11, z12⟩ := cb13 (HB6.out.2.2)
     go_wp2_with (go_at_call 14; fail)
     refine (sm14 n n' o o' T T' (sm19C 4 T T' d d' HD.out.1 HD.out.2.1) w7 A10 A11 A10' A11' c10 c11 c10' c11' A12 A12' c12 c12' (Kd.C_below HC.out.1 HB6.out.1) (Kd.C_below HC.out.2.2.1 HB6.out.1) (Kd.C_below HC'.out.1 HB6.out.1) (Kd.C_below HC'.out.2.2.1 HB6.out.1)).mono ?_
     rintro e w8 ⟨⟨r2, rfl, hr2⟩, hb⟩
     have HB7 := Aside0.mk (And.intro (below_step HB6.out.1 hb) (And.intro (blk_below HB6.out.2.1 hb) (blk_below HB6.out.2.2 hb)))
     clear hb y0 z0 y1 z1 y2 z2 y3 z3 y4 z4 y5 z5 y6 z6 y7 z7 y8 z8 y9 z9 y10 z10 y11 z11 y12 z12
     have hrr : r2 = r := by
      have h1 := HRR.out
      have h2 := HD.out.2.2
      cases r <;> cases r2 <;> simp_all
     subst hrr
     clear hr2
     obtain ⟨y0, y1, y2, y3, y4, y5, y6, y7, y8, y9, y10, y11, y12⟩ := cb13 (HB7.out.2.1)
     obtain ⟨z0, z1, z2, z3, z4, z5, z6, z7, z8, z9, z10, z11, z12⟩ := cb13 (HB7.out.2.2)
     cases r2
     all_goals go_wp2
     all_goals go_ret
     all_goals (exact ⟨rfl, HB7.out.1⟩)
end Go.Proofs.YteebgnhhjlgnjaaGreatDoor.V
