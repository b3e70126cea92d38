/- laws.field and laws.fields. -/
import Derived.Test.YteebgnhhjlgnjaaGreatDoorRT
import Derived.Test.YteebgnhhjlgnjaaGreatDoorWF
namespace Go.Proofs.YteebgnhhjlgnjaaGreatDoor.V
open Go.RowKit Go.Proofs.YteebgnhhjlgnjaaGreatDoorW.PrintWords Go.Proofs.YteebgnhhjlgnjaaGreatDoorW.PrintLast Go.Proofs.YteebgnhhjlgnjaaGreatDoorW.PrintMore
set_option maxHeartbeats 40000000
set_option maxRecDepth 100000
set_option linter.unusedVariables false
set_option linter.unusedSimpArgs false
theorem fits37 (a b : ByteArray) (w : World) : Calls Tryz.prog 37 #[.agg #[.string a, .string b]] w fun e w' => (∃ b, e = .returned (.bool b) ∧ True) ∧ Below w.heap.size w w' := by
 obtain ⟨R, hR⟩ : ∃ R : Ending → Prop, R = fun e => (∃ b, e = .returned (.bool b) ∧ True) := ⟨_, rfl⟩
 rw [show (fun (e : Ending) (w' : World) => (∃ b, e = .returned (.bool b) ∧ True) ∧ Below w.heap.size w w') = (fun e w' => R e ∧ Below w.heap.size w w') from by rw [hR]]
 have HR := Aside0.mk (show ∀ b, R (.returned (.bool b)) from fun b => by rw [hR]; exact ⟨b, rfl, trivial⟩)
 clear hR
 by_cases h : (2147483647 : Int) < (a.size : Int)
 ·have p1 : decide ((2147483647 : Int) < (a.size : Int)) = true := decide_eq_true h
  have p2 : ((2147483647 : Int) < (a.size : Int)) = True := eq_true h
  clear h
  go_enter Tryz.func37, Tryz.ntmps37
  go_wp2
  go_ret
  exact ⟨HR.out _, bl⟩
 have p1 : decide ((2147483647 : Int) < (a.size : Int)) = false := decide_eq_false h
 have p2 : ((2147483647 : Int) < (a.size : Int)) = False := eq_false h
 clear h
 by_cases h : (2147483647 : Int) < (b.size : Int)
 ·have q1 : decide ((2147483647 : Int) < (b.size : Int)) = true := decide_eq_true h
  have q2 : ((2147483647 : Int) < (b.size : Int)) = True := eq_true h
  clear h
  go_enter Tryz.func37, Tryz.ntmps37
  go_wp2
  go_ret
  exact ⟨HR.out _, bl⟩
 have q1 : decide ((2147483647 : Int) < (b.size : Int)) = false := decide_eq_false h
 have q2 : ((2147483647 : Int) < (b.size : Int)) = False := eq_false h
 clear h
 go_enter Tryz.func37, Tryz.ntmps37
 go_wp2
 go_ret
 exact ⟨HR.out _, bl⟩
theorem fits20 (ms : List S73) (A : Option Addr) (c : Nat) (w : World) (hC : Kd.C k73 w A ms.length ms) : Calls Tryz.prog 20 #[.slice A ms.length c] w fun e w' => (∃ b, e = .returned (.bool b) ∧ True) ∧ Below w.heap.size w w' := by
 have HC := Aside0.mk hC
 clear hC
 obtain ⟨R, hR⟩ : ∃ R : Ending → Prop, R = fun e => (∃ b, e = .returned (.bool b) ∧ True) := ⟨_, rfl⟩
 rw [show (fun (e : Ending) (w' : World) => (∃ b, e = .returned (.bool b) ∧ True) ∧ Below w.heap.size w w') = (fun e w' => R e ∧ Below w.heap.size w w') from by rw [hR]]
 have HR := Aside0.mk (show ∀ b, R (.returned (.bool b)) from fun b => by rw [hR]; exact ⟨b, rfl, trivial⟩)
 clear hR
 by_cases h : (2147483647 : Int) < (ms.length : Int)
 ·have p1 : decide ((2147483647 : Int) < (ms.length : Int)) = true := decide_eq_true h
  have p2 : ((2147483647 : Int) < (ms.length : Int)) = True := eq_true h
  clear h
  go_enter Tryz.func20, Tryz.ntmps20
  go_wp2
  go_ret
  exact ⟨HR.out _, bl⟩
 have p1 : decide ((2147483647 : Int) < (ms.length : Int)) = false := decide_eq_false h
 have p2 : ((2147483647 : Int) < (ms.length : Int)) = False := eq_false h
 have HL := Aside0.mk h
 clear h
 go_enter Tryz.func20, Tryz.ntmps20
 go_wp2
 go_loopg [10] ms.length (fun kq v10 wr => ∃ i : Nat, v10 = .int .i64 (i : Int) ∧ Aside0 (i + kq = ms.length ∧ Below w.heap.size w wr))
 case atStart => exact ⟨0, rfl, ⟨⟨by omega, Below.refl _ _⟩⟩⟩
 case round =>
  obtain ⟨i, rfl, HQ⟩ := hrel
  by_cases hi : i < ms.length
  rotate_left
  ·have hd : decide ((i : Int) < (ms.length : Int)) = false := by simpa using hi
   go_wp2
   go_ret
   exact ⟨HR.out _, HQ.out.2⟩
  have hd : decide ((i : Int) < (ms.length : Int)) = true := by simpa using hi
  have e1 : wrap64 ((i : Int) + 1) = ((i + 1 : Nat) : Int) := by have := HL.out; rw [w64_id _ (by omega) (by omega)]; omega
  have EW := Aside0.mk e1
  clear e1
  obtain ⟨ad, rfl, h0, h1⟩ := at_T73 HC.out (i : Int) (by omega) (by omega)
  rw [Int.toNat_natCast] at h0 h1
  have y0 := pw_cell_below HQ.out.2 h0
  have y1 := pw_cell_below HQ.out.2 h1
  have qi : (i < ms.length) = True := eq_true hi
  have qi' : ((i : Int) < (ms.length : Int)) = True := eq_true (by omega)
  clear h0 h1
  go_wp2_with (go_at_call 37; fail)
  refine calls_at ?_
  intro w1 hw1
  have b1 : Below wr.heap.size wr w1 := by rw [hw1]; repeat (first | exact Below.refl _ _ | apply b1_ | apply b2_ | apply b3_)
  clear hw1
  refine (fits37 _ _ w1).mono ?_
  rintro e w2 ⟨⟨r, rfl, _⟩, hb2⟩
  have HB := Aside0.mk (below_step HQ.out.2 (below_step b1 hb2))
  clear b1 hb2 y0 y1
  cases r with
  | false =>
   go_wp2
   go_ret
   exact ⟨HR.out _, HB.out⟩
  | true =>
   go_wp2
   go_roundg (ms.length - (i + 1))
   case measure => have := HQ.out.1; omega
   case rel => exact ⟨i + 1, by first | (rw [EW.out]) | go_num, ⟨⟨by have := HQ.out.1; omega, HB.out⟩⟩⟩
theorem fits7 (n : ByteArray) (o : Bool) (T : S28) (ms : List S73) (A10 A11 A12 : Option Addr) (c10 c11 c12 : Nat) (w : World) (hC : Kd.C k73 w A12 ms.length ms) : Calls Tryz.prog 7 #[.agg #[.string n, .bool o, .int .i64 T.f0, .int .i64 T.f1, .bool T.f2, .int .i64 T.f3, .int .i64 T.f4, .int .i64 T.f5, .string T.f6, .bool T.f7, .slice A10 T.f8.length c10, .slice A11 T.f9.length c11, .slice A12 ms.length c12]] w fun e w' => (∃ b, e = .returned (.bool b) ∧ True) ∧ Below w.heap.size w w' := by
 have HC := Aside0.mk hC
 clear hC
 obtain ⟨R, hR⟩ : ∃ R : Ending → Prop, R = fun e => (∃ b, e = .returned (.bool b) ∧ True) := ⟨_, rfl⟩
 rw [show (fun (e : Ending) (w' : World) => (∃ b, e = .returned (.bool b) ∧ True) ∧ Below w.heap.size w w') = (fun e w' => R e ∧ Below w.heap.size w w') from by rw [hR]]
 have HR := Aside0.mk (show ∀ b, R (.returned (.bool b)) from fun b => by rw [hR]; exact ⟨b, rfl, trivial⟩)
 clear hR
 by_cases h : (2147483647 : Int) < (n.size : Int)
 ·have p1 : decide ((2147483647 : Int) < (n.size : Int)) = true := decide_eq_true h
  have p2 : ((2147483647 : Int) < (n.size : Int)) = True := eq_true h
  clear h
  go_enter Tryz.func7, Tryz.ntmps7
  go_wp2
  go_ret
  exact ⟨HR.out _, bl⟩
 have p1 : decide ((2147483647 : Int) < (n.size : Int)) = false := decide_eq_false h
 have p2 : ((2147483647 : Int) < (n.size : Int)) = False := eq_false h
 clear h
 go_enter Tryz.func7, Tryz.ntmps7
 go_wp2_with (go_at_call 20; fail)
 refine calls_at ?_
 intro w1 hw1
 have b1 : Below w.heap.size w w1 := by rw [hw1]; repeat (first | exact Below.refl _ _ | apply b1_ | apply b2_ | apply b3_)
 clear hw1
 refine (fits20 ms A12 c12 w1 (Kd.C_below HC.out b1)).mono ?_
 rintro e w2 ⟨⟨r, rfl, _⟩, hb2⟩
 have HB := Aside0.mk (below_step b1 hb2)
 clear b1 hb2
 cases r with
 | false =>
  go_wp2
  go_ret
  exact ⟨HR.out _, HB.out⟩
 | true =>
  go_wp2
  go_ret
  exact ⟨HR.out _, HB.out⟩
theorem field9 (n : ByteArray) (o : Bool) (T : S28) (ms : List S73) (A10 A11 A12 : Option Addr) (c10 c11 c12 : Nat) (w : World) (hT : Tabs w) (hS : SzT T) (hn : n.size ≤ 9223372036854775807) (g8 : Kd.C (Kd.int .i64) w A10 T.f8.length T.f8) (l8 : T.f8.length ≤ c10) (g9 : Kd.C k30 w A11 T.f9.length T.f9) (l9 : T.f9.length ≤ c11) :
 Calls Tryz.prog 9 #[.agg #[.string n, .bool o, .int .i64 T.f0, .int .i64 T.f1, .bool T.f2, .int .i64 T.f3, .int .i64 T.f4, .int .i64 T.f5, .string T.f6, .bool T.f7, .slice A10 T.f8.length c10, .slice A11 T.f9.length c11, .slice A12 ms.length c12]] w fun e w' => (∃ b, e = .returned (.bool b) ∧ (b = true → AskedP T ∧ ms = [] ∧ n.size ≤ 100)) ∧ Below w.heap.size w w' := by
 have HC := Aside0.mk (And.intro hT (And.intro hS (And.intro hn (And.intro g8 (And.intro l8 (And.intro g9 l9))))))
 clear hT hS hn g8 l8 g9 l9
 obtain ⟨R, hR⟩ : ∃ R : Ending → Prop, R = fun e => (∃ b, e = .returned (.bool b) ∧ (b = true → AskedP T ∧ ms = [] ∧ n.size ≤ 100)) := ⟨_, rfl⟩
 rw [show (fun (e : Ending) (w' : World) => (∃ b, e = .returned (.bool b) ∧ (b = true → AskedP T ∧ ms = [] ∧ n.size ≤ 100)) ∧ Below w.heap.size w w') = (fun e w' => R e ∧ Below w.heap.size w w') from by rw [hR]]
 have HN := Aside0.mk (show R (.returned (.bool false)) from by rw [hR]; exact ⟨false, rfl, fun e => (by cases e)⟩)
 have HY := Aside0.mk (show AskedP T → ms = [] → R (.returned (.bool (decide ((n.size : Int) ≤ 100)))) from fun h1 h2 => by rw [hR]; exact ⟨_, rfl, fun h => ⟨h1, h2, by have := of_decide_eq_true h; omega⟩⟩)
 clear hR
 go_enter Tryz.func9, Tryz.ntmps9
 go_wp2_with (go_at_call 16; fail)
 refine calls_at ?_
 intro w1 hw1
 have b1 : Below w.heap.size w w1 := by rw [hw1]; repeat (first | exact Below.refl _ _ | apply b1_ | apply b2_ | apply b3_)
 have k1 : w1.heap[w.heap.size]? = some (.cells #[.string n, .bool o, .int .i64 T.f0, .int .i64 T.f1, .bool T.f2, .int .i64 T.f3, .int .i64 T.f4, .int .i64 T.f5, .string T.f6, .bool T.f7, .slice A10 T.f8.length c10, .slice A11 T.f9.length c11, .slice A12 ms.length c12] 30 (0, 0)) := by rw [hw1]; first | exact blk_new _ _ | exact blk_drew_ (blk_new _ _)
 clear hw1
 refine (asked16 T w1 A10 A11 c10 c11 (HC.out.1.below (B := 0) b1) HC.out.2.1 (Kd.C_below HC.out.2.2.2.1 b1) HC.out.2.2.2.2.1 (Kd.C_below HC.out.2.2.2.2.2.1 b1) HC.out.2.2.2.2.2.2).mono ?_
 rintro e w2 ⟨⟨r, rfl, hr⟩, hb2⟩
 have HA := Aside0.mk hr
 have HB := Aside0.mk (And.intro (below_step b1 hb2) (blk_below k1 hb2))
 have y0 : w2.cell? ⟨w.heap.size, 0, none⟩ = some (.string n) := (blk_cell HB.out.2 0).trans rfl
 have y12 : w2.cell? ⟨w.heap.size, 12, none⟩ = some (.slice A12 ms.length c12) := (blk_cell HB.out.2 12).trans rfl
 clear hr b1 k1 hb2
 cases r with
 | false =>
  go_wp2
  go_ret
  exact ⟨HN.out, HB.out.1⟩
 | true =>
  by_cases hm : ms = []
  rotate_left
  ·have hm2 : ms.length ≠ 0 := fun h => hm (List.length_eq_zero_iff.mp h)
   have q1 : ((ms.length : Int) == 0) = false := by rw [beq_eq_false_iff_ne]; omega
   have q2 : ((ms.length : Int) = 0) = False := eq_false (by omega)
   clear hm hm2
   go_wp2
   go_ret
   exact ⟨HN.out, HB.out.1⟩
  subst hm
  have HA2 := Aside0.mk (HA.out (by first | rfl | trivial))
  go_wp2_with (go_at_call 21; fail)
  refine (well21 n w2 HC.out.2.2.1 (HC.out.1.below (B := 0) HB.out.1)).mono ?_
  rintro e w3 ⟨rfl, hb3⟩
  have HB3 := Aside0.mk (below_step HB.out.1 hb3)
  have z0 : w3.cell? ⟨w.heap.size, 0, none⟩ = some (.string n) := pw_cell_below hb3 y0
  clear hb3 y0 y12
  cases hv : Lib.validD n.data.toList with
  | false =>
   go_wp2
   go_ret
   exact ⟨HN.out, HB3.out⟩
  | true =>
   go_wp2
   go_ret
   exact ⟨HY.out HA2.out (by first | rfl | trivial), HB3.out⟩
theorem fits6 (fs : List S30) (ms : List S73) (A9 Am : Option Addr) (c9 cm : Nat) (w : World) (hC : Kd.C k73 w Am ms.length ms) : Calls Tryz.prog 6 #[.agg #[.slice A9 fs.length c9, .slice Am ms.length cm]] w fun e w' => (∃ b, e = .returned (.bool b) ∧ (b = true → fs.length ≤ 2147483647)) ∧ Below w.heap.size w w' := by
 have HC := Aside0.mk hC
 clear hC
 obtain ⟨R, hR⟩ : ∃ R : Ending → Prop, R = fun e => (∃ b, e = .returned (.bool b) ∧ (b = true → fs.length ≤ 2147483647)) := ⟨_, rfl⟩
 rw [show (fun (e : Ending) (w' : World) => (∃ b, e = .returned (.bool b) ∧ (b = true → fs.length ≤ 2147483647)) ∧ Below w.heap.size w w') = (fun e w' => R e ∧ Below w.heap.size w w') from by rw [hR]]
 have HR := Aside0.mk (show ∀ b, (b = true → fs.length ≤ 2147483647) → R (.returned (.bool b)) from fun b hb => by rw [hR]; exact ⟨b, rfl, hb⟩)
 clear hR
 by_cases h : (2147483647 : Int) < (fs.length : Int)
 ·have p1 : decide ((2147483647 : Int) < (fs.length : Int)) = true := decide_eq_true h
  have p2 : ((2147483647 : Int) < (fs.length : Int)) = True := eq_true h
  clear h
  go_enter Tryz.func6, Tryz.ntmps6
  go_wp2
  go_ret
  exact ⟨HR.out _ (fun h => by cases h), bl⟩
 have p1 : decide ((2147483647 : Int) < (fs.length : Int)) = false := decide_eq_false h
 have p2 : ((2147483647 : Int) < (fs.length : Int)) = False := eq_false h
 have HL := Aside0.mk (show fs.length ≤ 2147483647 from by omega)
 clear h
 go_enter Tryz.func6, Tryz.ntmps6
 go_wp2_with (go_at_call 20; fail)
 refine calls_at ?_
 intro w1 hw1
 have b1 : Below w.heap.size w w1 := by rw [hw1]; repeat (first | exact Below.refl _ _ | apply b1_ | apply b2_ | apply b3_)
 clear hw1
 refine (fits20 ms Am cm w1 (Kd.C_below HC.out b1)).mono ?_
 rintro e w2 ⟨⟨r, rfl, _⟩, hb2⟩
 have HB := Aside0.mk (below_step b1 hb2)
 clear b1 hb2
 cases r with
 | false =>
  go_wp2
  go_ret
  exact ⟨HR.out _ (fun _ => HL.out), HB.out⟩
 | true =>
  go_wp2
  go_ret
  exact ⟨HR.out _ (fun _ => HL.out), HB.out⟩
theorem fields8 (fs : List S30) (ms : List S73) (A9 Am : Option Addr) (c9 cm : Nat) (w : World) (hT : Tabs w) (hS : ∀ f ∈ fs, f.f0.size ≤ 9223372036854775807 ∧ SzT f.f2) (hl : fs.length ≤ 2147483647) (hC : Kd.C k30 w A9 fs.length fs) : Calls Tryz.prog 8 #[.agg #[.slice A9 fs.length c9, .slice Am ms.length cm]] w fun e w' => (∃ b, e = .returned (.bool b) ∧ (b = true → (∀ (j : Nat) (hj : j < fs.length), AskedP fs[j].f2 ∧ fs[j].f3 = [] ∧ fs[j].f0.size ≤ 100) ∧ fs.length ≤ 20 ∧ ms.length ≤ 20)) ∧ Below w.heap.size w w' := by
 obtain ⟨PP, hPP⟩ : ∃ PP : Nat → Prop, PP = fun i => ∀ (j : Nat) (hj : j < fs.length), j < i → AskedP fs[j].f2 ∧ fs[j].f3 = [] ∧ fs[j].f0.size ≤ 100 := ⟨_, rfl⟩
 obtain ⟨R, hR⟩ : ∃ R : Ending → Prop, R = fun e => (∃ b, e = .returned (.bool b) ∧ (b = true → (∀ (j : Nat) (hj : j < fs.length), AskedP fs[j].f2 ∧ fs[j].f3 = [] ∧ fs[j].f0.size ≤ 100) ∧ fs.length ≤ 20 ∧ ms.length ≤ 20)) := ⟨_, rfl⟩
 rw [show (fun (e : Ending) (w' : World) => (∃ b, e = .returned (.bool b) ∧ (b = true → (∀ (j : Nat) (hj : j < fs.length), AskedP fs[j].f2 ∧ fs[j].f3 = [] ∧ fs[j].f0.size ≤ 100) ∧ fs.length ≤ 20 ∧ ms.length ≤ 20)) ∧ Below w.heap.size w w') = (fun e w' => R e ∧ Below w.heap.size w w') from by rw [hR]]
 have HN := Aside0.mk (show R (.returned (.bool false)) from by rw [hR]; exact ⟨false, rfl, fun e => (by cases e)⟩)
 have HY := Aside0.mk (show PP fs.length → fs.length ≤ 20 → R (.returned (.bool (decide ((ms.length : Int) ≤ 20)))) from fun h1 h2 => by rw [hR]; rw [hPP] at h1; exact ⟨_, rfl, fun h => ⟨fun j hj => h1 j hj hj, h2, by have := of_decide_eq_true h; omega⟩⟩)
 have HP0 := Aside0.mk (show PP 0 from by rw [hPP]; intro j _ h; omega)
 have HPS := Aside0.mk (show ∀ (i : Nat) (hi : i < fs.length), PP i → AskedP fs[i].f2 → fs[i].f3 = [] → fs[i].f0.size ≤ 100 → PP (i + 1) from fun i hi h a b c => by
  rw [hPP] at h ⊢
  intro j hj hlt
  by_cases e : j = i
  ·subst e; exact ⟨a, b, c⟩
  ·exact h j hj (by omega))
 clear hR hPP
 have HH := Aside0.mk (And.intro hT (And.intro hS (And.intro hl hC)))
 clear hT hS hl hC
 go_enter Tryz.func8, Tryz.ntmps8
 go_upto_region 1 with fail
 refine wp_at ?_
 intro w0 hw0
 have b0 : Below w.heap.size w w0 := by rw [hw0]; repeat (first | exact Below.refl _ _ | apply b1_ | apply b2_ | apply b3_)
 have k0 : w0.heap[w.heap.size]? = some (.cells #[.slice A9 fs.length c9, .slice Am ms.length cm] 25 (0, 0)) := by rw [hw0]; exact blk_new_at rfl
 clear hw0
 have y0 := (blk_cell k0 0).trans (show _ = some (.slice A9 fs.length c9 : Value) from rfl)
 have H0 := Aside0.mk (And.intro b0 k0)
 clear b0 k0
 go_wp2
 clear y0
 go_loopg [8] fs.length (fun kq v8 wr => ∃ i : Nat, v8 = .int .i64 (i : Int) ∧ Aside0 (i + kq = fs.length ∧ Below w.heap.size w wr ∧ wr.heap[w.heap.size]? = some (.cells #[.slice A9 fs.length c9, .slice Am ms.length cm] 25 (0, 0)) ∧ PP i))
 case atStart => exact ⟨0, rfl, ⟨⟨by omega, H0.out.1, H0.out.2, HP0.out⟩⟩⟩
 case round =>
  obtain ⟨i, rfl, hA⟩ := hrel
  by_cases hi : i < fs.length
  ·have hd : decide ((i : Int) < (fs.length : Int)) = true := by simpa using hi
   have e1 : wrap64 ((i : Int) + 1) = ((i + 1 : Nat) : Int) := by have := HH.out.2.2.1; rw [w64_id _ (by omega) (by omega)]; omega
   have E1 := Aside0.mk e1
   obtain ⟨ad, cs, rfl, hK, hcell⟩ := at30 (Kd.C_below HH.out.2.2.2 hA.out.2.1) i hi
   obtain ⟨A10, c10, A11, c11, A12, c12, hcs, l10, g10, l11, g11, l12, g12⟩ := k30_open hK
   obtain ⟨x0, x1, x2, x3, x4, x5, x6, x7, x8, x9, x10, x11, x12⟩ := fld13 hcell hcs
   have HI := Aside0.mk (And.intro g10 (And.intro l10 (And.intro g11 (And.intro l11 hi))))
   have HS := Aside0.mk (HH.out.2.1 _ (List.getElem_mem hi))
   clear e1 hK hcell hcs l10 g10 l11 g11 l12 g12
   go_wp2_with (go_at_call 9; fail)
   refine calls_at ?_
   intro w1 hw1
   have b1 : Below wr.heap.size wr w1 := by rw [hw1]; repeat (first | exact Below.refl _ _ | apply b1_ | apply b2_ | apply b3_)
   clear hw1 x0 x1 x2 x3 x4 x5 x6 x7 x8 x9 x10 x11 x12
   have bw := below_step hA.out.2.1 b1
   refine (field9 fs[i].f0 fs[i].f1 fs[i].f2 fs[i].f3 A10 A11 A12 c10 c11 c12 w1 (HH.out.1.below (B := 0) bw) HS.out.2 HS.out.1 (Kd.C_below HI.out.1 b1) HI.out.2.1 (Kd.C_below HI.out.2.2.1 b1) HI.out.2.2.2.1).mono ?_
   rintro e w2 ⟨⟨r, rfl, hr⟩, hb2⟩
   have HW := Aside0.mk (And.intro (below_step bw hb2) (blk_below (blk_below hA.out.2.2.1 b1) hb2))
   have HRR := Aside0.mk hr
   clear b1 bw hb2 hr
   cases r with
   | false =>
    go_wp2
    go_ret
    exact ⟨HN.out, HW.out.1⟩
   | true =>
    go_wp2
    have h1 := hA.out.1
    go_roundg (fs.length - (i + 1))
    case measure => omega
    case rel =>
     obtain ⟨q1, q2, q3⟩ := HRR.out (by first | rfl | trivial)
     exact ⟨i + 1, by first | go_num | (rw [E1.out]), ⟨⟨by omega, HW.out.1, HW.out.2, HPS.out i hi hA.out.2.2.2 q1 q2 q3⟩⟩⟩
  ·have hd : decide ((i : Int) < (fs.length : Int)) = false := by simpa using hi
   have hin : i = fs.length := by have := hA.out.1; omega
   have y0 := (blk_cell hA.out.2.2.1 0).trans (show _ = some (.slice A9 fs.length c9 : Value) from rfl)
   have y1 := (blk_cell hA.out.2.2.1 1).trans (show _ = some (.slice Am ms.length cm : Value) from rfl)
   have HPP := Aside0.mk (show PP fs.length from hin ▸ hA.out.2.2.2)
   have HB := Aside0.mk hA.out.2.1
   clear hin
   by_cases h20 : (fs.length : Int) ≤ 20
   ·have q1 : decide ((fs.length : Int) ≤ 20) = true := decide_eq_true h20
    have H20 := Aside0.mk h20
    have q2 : ((fs.length : Int) ≤ 20) = True := eq_true h20
    clear h20
    go_wp2
    go_ret
    exact ⟨HY.out HPP.out (by have := H20.out; omega), HB.out⟩
   ·have q1 : decide ((fs.length : Int) ≤ 20) = false := decide_eq_false h20
    have q2 : ((fs.length : Int) ≤ 20) = False := eq_false h20
    clear h20
    go_wp2
    go_ret
    exact ⟨HN.out, HB.out⟩
end Go.Proofs.YteebgnhhjlgnjaaGreatDoor.V
