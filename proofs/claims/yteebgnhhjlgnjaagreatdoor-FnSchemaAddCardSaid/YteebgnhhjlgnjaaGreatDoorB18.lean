/- laws.FnSchemaAdd. -/
import Derived.Test.YteebgnhhjlgnjaaGreatDoorB17
import Derived.Test.YteebgnhhjlgnjaaGreatDoorLG
namespace Go.Proofs.YteebgnhhjlgnjaaGreatDoor.V
open Go.RowKit Go.Proofs.YteebgnhhjlgnjaaGreatDoorW.PrintWords Go.Proofs.YteebgnhhjlgnjaaGreatDoorW.PrintLast Go.Proofs.YteebgnhhjlgnjaaGreatDoorW.PrintMore
set_option maxHeartbeats 40000000
set_option maxRecDepth 100000
set_option linter.unusedVariables false
set_option linter.unusedSimpArgs false
theorem cutTo22 (A : Option Addr) (n c : Nat) (j : Int) (h0 : 0 ≤ j) (hm : j ≤ n) (hc : n ≤ c) :
 ∀ W : World, (Instr.slice 22 (.slice A n c) none (some (.int .i64 j)) none).run Tryz.prog W = .ok (.slice A j.toNat c) W := by
 intro W
 obtain ⟨i, hi, hzz⟩ := Option.map_eq_some_iff.1 info30
 have hel : Tryz.prog.elem 22 = 30 := by simp [Program.elem, Tryz.underlying22]
 have hu : Tryz.prog.underlying 22 = some (.slice (Tryz.prog.elem 22)) := by rw [hel]; exact Tryz.underlying22
 have ha : (A.map fun x => x.add 0) = A := by cases A <;> simp [Addr.add]
 rw [run_slice_h W 22 A n c hu .i64 j h0 (by omega), hel]
 simp [sizeOf, typeInfo, hi, sliced, Result.andThen, ha]
theorem cutFrom22 (A : Option Addr) (n c : Nat) (j : Int) (h0 : 0 ≤ j) (hm : j ≤ n) :
 ∀ W : World, (Instr.slice 22 (.slice A n c) (some (.int .i64 j)) none none).run Tryz.prog W = .ok (.slice (if c = j.toNat then A else A.map (·.add (j.toNat * 13))) (n - j.toNat) (c - j.toNat)) W := by
 intro W
 obtain ⟨i, hi, hzz⟩ := Option.map_eq_some_iff.1 info30
 simp only [Prod.mk.injEq] at hzz
 have hel : Tryz.prog.elem 22 = 30 := by simp [Program.elem, Tryz.underlying22]
 have hu : Tryz.prog.underlying 22 = some (.slice (Tryz.prog.elem 22)) := by rw [hel]; exact Tryz.underlying22
 rw [run_slice_l W 22 A n c hu .i64 j h0 hm, hel]
 simp [sizeOf, typeInfo, hi, hzz.2.1, sliced, Result.andThen]
theorem one30 {w W : World} {f : S30} {cs : List Value} {g : Nat} (hK : k30.K w f cs) (hg : W.heap[g]? = some (.cells cs.toArray 30 (0, 0))) : ReadsRow (k30.K w) 13 W (some ⟨g, 0, none⟩) 1 [f] := ⟨rfl, by decide, fun _ => ⟨_, rfl, fun j p hj => by
 match j, hj with
 | 0, hj =>
  obtain rfl : f = p := by simpa using hj
  refine ⟨cs, Kd.K_len k30 hK, hK, fun i u hu => ?_⟩
  rw [show (⟨g, 0, none⟩ : Addr).add (0 * 13 + i) = ⟨g, i, none⟩ by simp [Addr.add]; try omega]
  rw [blk_cell hg]
  simpa using hu
 | j + 1, hj => simp at hj⟩⟩
theorem sf_all : ∀ (fs : List S30), (∀ f ∈ fs, AskedP f.f2 ∧ f.f3 = [] ∧ f.f0.size ≤ 100) → ∃ ds, All2 SF fs ds
 | [], _ => ⟨[], .nil⟩
 | ⟨n, b, T, ps⟩ :: r, h => by
  obtain ⟨ds, hd⟩ := sf_all r (fun f hf => h f (List.mem_cons_of_mem _ hf))
  obtain ⟨h1, h2, h3⟩ := h _ List.mem_cons_self
  obtain ⟨d, hT⟩ := td_of 4 T h1.1 h1.2
  dsimp only at h2 h3
  subst h2
  exact ⟨_, .cons ⟨n, b, T, d, rfl, rfl, hT, h3⟩ hd⟩
theorem sf_td {fs : List S30} {ds : List DF} (h : All2 SF fs ds) : ∀ f ∈ fs, f.f3 = [] ∧ ∃ t, TD 4 f.f2 t := by
 induction h with
 | nil => intro f hf; cases hf
 | cons hab _ ih =>
  obtain ⟨n, b, T, t, rfl, rfl, hT, _⟩ := hab
  intro f hf
  rcases List.mem_cons.1 hf with rfl | hf
  ·exact ⟨rfl, t, hT⟩
  ·exact ih f hf
theorem law3 (fs : List S30) (mm : List S73) (n : ByteArray) (o : Bool) (T : S28) (ms : List S73) (a_ : Int) (w : World) (A9 Am A10 A11 A12 : Option Addr) (c9 cm c10 c11 c12 : Nat) (hT : Tabs w) (hSf : ∀ f ∈ fs, f.f0.size ≤ 9223372036854775807 ∧ SzT f.f2) (hS : SzT T) (hn : n.size ≤ 9223372036854775807) (g9 : Kd.C k30 w A9 fs.length fs) (l9 : fs.length ≤ c9) (gm : Kd.C k73 w Am mm.length mm) (g10 : Kd.C (Kd.int .i64) w A10 T.f8.length T.f8) (l10 : T.f8.length ≤ c10) (g11 : Kd.C k30 w A11 T.f9.length T.f9) (l11 : T.f9.length ≤ c11) (l12 : ms.length ≤ c12) (g12 : Kd.C k73 w A12 ms.length ms) :
 Calls Tryz.prog 3 #[.agg #[.slice A9 fs.length c9, .slice Am mm.length cm], .int .i64 a_, .agg #[.string n, .bool o, .int .i64 T.f0, .int .i64 T.f1, .bool T.f2, .int .i64 T.f3, .int .i64 T.f4, .int .i64 T.f5, .string T.f6, .bool T.f7, .slice A10 T.f8.length c10, .slice A11 T.f9.length c11, .slice A12 ms.length c12]] w fun e w' => e = .returned (.bool true) ∧ Below w.heap.size w w' := by
 have HT := Aside0.mk (And.intro hT (And.intro hSf (And.intro hS hn)))
 have HC := Aside0.mk (And.intro g9 (And.intro l9 (And.intro gm (And.intro g10 (And.intro l10 (And.intro g11 (And.intro l11 (And.intro l12 g12))))))))
 clear hT hSf hS hn g9 l9 gm g10 l10 g11 l11 l12 g12
 go_enter Tryz.func3, Tryz.ntmps3
 go_wp2_with (go_at_call 6; fail)
 refine calls_at ?_
 intro w1 hw1
 have b1 : Below w.heap.size w w1 := by rw [hw1]; repeat (first | exact Below.refl _ _ | apply b1_ | apply b2_ | apply b3_)
 have k1 : w1.heap[w.heap.size]? = some (.cells #[.slice A9 fs.length c9, .slice Am mm.length cm] 25 (0, 0)) := by rw [hw1]; exact blk_alloc_ (blk_new _ _)
 have k2 : w1.heap[w.heap.size + 1]? = some (.cells #[.string n, .bool o, .int .i64 T.f0, .int .i64 T.f1, .bool T.f2, .int .i64 T.f3, .int .i64 T.f4, .int .i64 T.f5, .string T.f6, .bool T.f7, .slice A10 T.f8.length c10, .slice A11 T.f9.length c11, .slice A12 ms.length c12] 30 (0, 0)) := by rw [hw1]; exact blk_new_at (by rw [alloc_size_])
 clear hw1
 have HB0 := Aside0.mk (And.intro b1 (And.intro k1 k2))
 clear b1 k1 k2
 refine (fits6 fs mm A9 Am c9 cm w1 (Kd.C_below HC.out.2.2.1 HB0.out.1)).mono ?_
 rintro e w2 ⟨⟨r1, rfl, hr1⟩, hb⟩
 have HB1 := Aside0.mk (And.intro (below_step HB0.out.1 hb) (And.intro (blk_below HB0.out.2.1 hb) (blk_below HB0.out.2.2 hb)))
 have HR1 := Aside0.mk hr1
 clear hb hr1 
 obtain ⟨y0, y1⟩ := cb2 (HB1.out.2.1)
 obtain ⟨z0, z1, z2, z3, z4, z5, z6, z7, z8, z9, z10, z11, z12⟩ := cb13 (HB1.out.2.2)
 cases r1 with
 | false =>
  go_wp2
  go_ret
  exact ⟨rfl, HB1.out.1⟩
 | true =>
 go_wp2_with (go_at_call 7; fail)
 refine (fits7 n o T ms A10 A11 A12 c10 c11 c12 w2 (Kd.C_below HC.out.2.2.2.2.2.2.2.2 HB1.out.1)).mono ?_
 rintro e w3 ⟨⟨r2, rfl, hr2⟩, hb⟩
 have HB2 := Aside0.mk (And.intro (below_step HB1.out.1 hb) (And.intro (blk_below HB1.out.2.1 hb) (blk_below HB1.out.2.2 hb)))
 have HR2 := Aside0.mk hr2
 clear hb hr2 y0 y1 z0 z1 z2 z3 z4 z5 z6 z7 z8 z9 z10 z11 z12
 obtain ⟨y0, y1⟩ := cb2 (HB2.out.2.1)
 obtain ⟨z0, z1, z2, z3, z4, z5, z6, z7, z8, z9, z10, z11, z12⟩ := cb13 (HB2.out.2.2)
 cases r2 with
 | false =>
  go_wp2
  go_ret
  exact ⟨rfl, HB2.out.1⟩
 | true =>
 go_wp2_with (go_at_call 8; fail)
 refine (fields8 fs mm A9 Am c9 cm w3 (HT.out.1.below (B := 0) HB2.out.1) HT.out.2.1 (HR1.out (by first | rfl | trivial)) (Kd.C_below HC.out.1 HB2.out.1)).mono ?_
 rintro e w4 ⟨⟨r3, rfl, hr3⟩, hb⟩
 have HB3 := Aside0.mk (And.intro (below_step HB2.out.1 hb) (And.intro (blk_below HB2.out.2.1 hb) (blk_below HB2.out.2.2 hb)))
 have HR3 := Aside0.mk hr3
 clear hb hr3 y0 y1 z0 z1 z2 z3 z4 z5 z6 z7 z8 z9 z10 z11 z12
 obtain ⟨y0, y1⟩ := cb2 (HB3.out.2.1)
 obtain ⟨z0, z1, z2, z3, z4, z5, z6, z7, z8, z9, z10, z11, z12⟩ := cb13 (HB3.out.2.2)
 cases r3 with
 | false =>
  go_wp2_with (go_at_call 10; fail)
  refine (finds10 _).mono ?_
  rintro e wF ⟨rfl, hbF⟩
  have HF := Aside0.mk (below_step HB3.out.1 hbF)
  clear hbF
  go_wp2
  go_ret
  exact ⟨rfl, HF.out⟩
 | true =>
 go_wp2_with (go_at_call 9; fail)
 refine (field9 n o T ms A10 A11 A12 c10 c11 c12 w4 (HT.out.1.below (B := 0) HB3.out.1) HT.out.2.2.1 HT.out.2.2.2 (Kd.C_below HC.out.2.2.2.1 HB3.out.1) HC.out.2.2.2.2.1 (Kd.C_below HC.out.2.2.2.2.2.1 HB3.out.1) HC.out.2.2.2.2.2.2.1).mono ?_
 rintro e w5 ⟨⟨r4, rfl, hr4⟩, hb⟩
 have HB4 := Aside0.mk (And.intro (below_step HB3.out.1 hb) (And.intro (blk_below HB3.out.2.1 hb) (blk_below HB3.out.2.2 hb)))
 have HR4 := Aside0.mk hr4
 clear hb hr4 y0 y1 z0 z1 z2 z3 z4 z5 z6 z7 z8 z9 z10 z11 z12
 obtain ⟨y0, y1⟩ := cb2 (HB4.out.2.1)
 obtain ⟨z0, z1, z2, z3, z4, z5, z6, z7, z8, z9, z10, z11, z12⟩ := cb13 (HB4.out.2.2)
 cases r4 with
 | false =>
  go_wp2_with (go_at_call 10; fail)
  refine (finds10 _).mono ?_
  rintro e wF ⟨rfl, hbF⟩
  have HF := Aside0.mk (below_step HB4.out.1 hbF)
  clear hbF
  go_wp2
  go_ret
  exact ⟨rfl, HF.out⟩
 | true =>
 by_cases e1 : a_ < -1073741824
 ·have p1 : decide (a_ < -1073741824) = true := decide_eq_true e1
  have p2 : (a_ < -1073741824) = True := eq_true e1
  clear e1
  go_wp2_with (go_at_call 10; fail)
  refine (finds10 _).mono ?_
  rintro e wF ⟨rfl, hbF⟩
  have HF := Aside0.mk (below_step HB4.out.1 hbF)
  clear hbF
  go_wp2
  go_ret
  exact ⟨rfl, HF.out⟩
 have p1 : decide (a_ < -1073741824) = false := decide_eq_false e1
 have p2 : (a_ < -1073741824) = False := eq_false e1
 clear e1
 by_cases e1 : 1073741824 < a_
 ·have p3 : decide (1073741824 < a_) = true := decide_eq_true e1
  have p4 : (1073741824 < a_) = True := eq_true e1
  clear e1
  go_wp2_with (go_at_call 10; fail)
  refine (finds10 _).mono ?_
  rintro e wF ⟨rfl, hbF⟩
  have HF := Aside0.mk (below_step HB4.out.1 hbF)
  clear hbF
  go_wp2
  go_ret
  exact ⟨rfl, HF.out⟩
 have p3 : decide (1073741824 < a_) = false := decide_eq_false e1
 have p4 : (1073741824 < a_) = False := eq_false e1
 clear e1
 obtain ⟨hA, hl20, hm20⟩ := HR3.out (by first | rfl | trivial)
 obtain ⟨hAT, hms, hn100⟩ := HR4.out (by first | rfl | trivial)
 have HM := Aside0.mk hms
 have HX := Aside0.mk (And.intro hl20 (And.intro hm20 hn100))
 obtain ⟨ds, hds⟩ := sf_all fs (fun f hf => by
  obtain ⟨j, hj, rfl⟩ := List.mem_iff_getElem.1 hf
  exact hA j hj)
 obtain ⟨dt, hdt⟩ := td_of 4 T hAT.1 hAT.2
 have HD := Aside0.mk (And.intro hds hdt)
 clear hA hl20 hm20 hAT hms hn100 hds hdt
 go_wp2_with (go_at_call 11; fail)
 obtain rfl := HM.out
 by_cases hat : a_ < 0 ∨ (fs.length : Int) < a_
 ·refine (add11_no fs ds HD.out.1 HX.out.1 mm HX.out.2.1 a_ hat n o T dt HD.out.2 HX.out.2.2 A9 Am A10 A11 A12 c9 cm c10 c11 c12 w5 (Kd.C_below HC.out.1 HB4.out.1) (Kd.C_below HC.out.2.2.1 HB4.out.1) (Kd.C_below HC.out.2.2.2.1 HB4.out.1) (Kd.C_below HC.out.2.2.2.2.2.1 HB4.out.1)).mono ?_
  rintro e w6 ⟨rfl, hb⟩
  have HB5 := Aside0.mk (And.intro (below_step HB4.out.1 hb) (And.intro (blk_below HB4.out.2.1 hb) (blk_below HB4.out.2.2 hb)))
  clear hb y0 y1 z0 z1 z2 z3 z4 z5 z6 z7 z8 z9 z10 z11 z12
  go_upto_region 6 with fail
  refine wp_at ?_
  intro w7 hw7
  have bb : Below w6.heap.size w6 w7 := by rw [hw7]; repeat (first | exact Below.refl _ _ | apply b1_ | apply b2_ | apply b3_)
  have HB6 := Aside0.mk (And.intro (below_step HB5.out.1 bb) (And.intro (blk_below HB5.out.2.1 bb) (blk_below HB5.out.2.2 bb)))
  clear hw7 bb
  obtain ⟨y0, y1⟩ := cb2 (HB6.out.2.1)
  obtain ⟨z0, z1, z2, z3, z4, z5, z6, z7, z8, z9, z10, z11, z12⟩ := cb13 (HB6.out.2.2)
  by_cases e1 : a_ < 0
  ·have p5 : decide (a_ < 0) = true := decide_eq_true e1
   have p6 : (a_ < 0) = True := eq_true e1
   clear e1 hat
   go_wp2_with (go_at_call 10; fail)
   refine (finds10 _).mono ?_
   rintro e wF ⟨rfl, hbF⟩
   have HF := Aside0.mk (below_step HB6.out.1 hbF)
   clear hbF
   go_wp2
   go_ret
   exact ⟨rfl, HF.out⟩
  ·have p5 : decide (a_ < 0) = false := decide_eq_false e1
   have p6 : (a_ < 0) = False := eq_false e1
   have e2 : (fs.length : Int) < a_ := by omega
   have p7 : decide ((fs.length : Int) < a_) = true := decide_eq_true e2
   have p8 : ((fs.length : Int) < a_) = True := eq_true e2
   clear e1 e2 hat
   go_wp2_with (go_at_call 10; fail)
   refine (finds10 _).mono ?_
   rintro e wF ⟨rfl, hbF⟩
   have HF := Aside0.mk (below_step HB6.out.1 hbF)
   clear hbF
   go_wp2
   go_ret
   exact ⟨rfl, HF.out⟩
 obtain ⟨i, rfl⟩ : ∃ i : Nat, a_ = (i : Int) := ⟨a_.toNat, by omega⟩
 have hi : i ≤ fs.length := by omega
 have p5 : decide ((i : Int) < 0) = false := decide_eq_false (by omega)
 have p6 : ((i : Int) < 0) = False := eq_false (by omega)
 have p7 : decide ((fs.length : Int) < (i : Int)) = false := decide_eq_false (by omega)
 have p8 : ((fs.length : Int) < (i : Int)) = False := eq_false (by omega)
 have HI := Aside0.mk hi
 clear hi hat
 refine (add11_yes fs ds HD.out.1 HX.out.1 mm HX.out.2.1 i HI.out n o T dt HD.out.2 HX.out.2.2 A9 Am A10 A11 A12 c9 cm c10 c11 c12 w5 (Kd.C_below HC.out.1 HB4.out.1) (Kd.C_below HC.out.2.2.1 HB4.out.1) (Kd.C_below HC.out.2.2.2.1 HB4.out.1) (Kd.C_below HC.out.2.2.2.2.2.1 HB4.out.1)).mono ?_
 rintro e w6 ⟨⟨Ag, cg, Bg, mg, dg, rfl, hrow⟩, hb⟩
 have HB5 := Aside0.mk (And.intro (below_step HB4.out.1 hb) (And.intro (blk_below HB4.out.2.1 hb) (blk_below HB4.out.2.2 hb)))
 have HW := Aside0.mk hrow
 obtain ⟨want, hwant⟩ : ∃ want, want = fs.take i ++ ⟨n, o, T, []⟩ :: fs.drop i := ⟨_, rfl⟩
 rw [← hwant] at HW ⊢
 have HQ := Aside0.mk hwant
 clear hb hrow hwant y0 y1 z0 z1 z2 z3 z4 z5 z6 z7 z8 z9 z10 z11 z12
 go_upto_region 6 with fail
 refine wp_at ?_
 intro w7 hw7
 have bb : Below w6.heap.size w6 w7 := by rw [hw7]; repeat (first | exact Below.refl _ _ | apply b1_ | apply b2_ | apply b3_)
 have k7 : w7.heap[w6.heap.size]? = some (.cells #[.slice Ag want.length cg, .slice Bg mg dg] 25 (0, 0)) := by rw [hw7]; exact blk_new_at rfl
 have HB6 := Aside0.mk (And.intro (below_step HB5.out.1 bb) (And.intro (blk_below HB5.out.2.1 bb) (blk_below HB5.out.2.2 bb)))
 have HG := Aside0.mk (And.intro k7 (HW.out.below bb))
 clear hw7 bb k7
 obtain ⟨y0, y1⟩ := cb2 (HB6.out.2.1)
 obtain ⟨z0, z1, z2, z3, z4, z5, z6, z7, z8, z9, z10, z11, z12⟩ := cb13 (HB6.out.2.2)
 go_upto_region 8 with fail
 have HMK : Aside0 (∀ W, Below w7.heap.size w7 W → (fun w' => Below w7.heap.size w7 w' ∧ w'.cell? ⟨w.heap.size, 0, none⟩ = some (.slice A9 fs.length c9) ∧ w'.cell? ⟨w.heap.size, 1, none⟩ = some (.slice Am mm.length cm) ∧ w'.cell? ⟨w.heap.size + 1, 0, none⟩ = some (.string n) ∧ w'.cell? ⟨w.heap.size + 1, 1, none⟩ = some (.bool o) ∧ w'.cell? ⟨w.heap.size + 1, 2, none⟩ = some (.int .i64 T.f0) ∧ w'.cell? ⟨w.heap.size + 1, 3, none⟩ = some (.int .i64 T.f1) ∧ w'.cell? ⟨w.heap.size + 1, 4, none⟩ = some (.bool T.f2) ∧ w'.cell? ⟨w.heap.size + 1, 5, none⟩ = some (.int .i64 T.f3) ∧ w'.cell? ⟨w.heap.size + 1, 6, none⟩ = some (.int .i64 T.f4) ∧ w'.cell? ⟨w.heap.size + 1, 7, none⟩ = some (.int .i64 T.f5) ∧ w'.cell? ⟨w.heap.size + 1, 8, none⟩ = some (.string T.f6) ∧ w'.cell? ⟨w.heap.size + 1, 9, none⟩ = some (.bool T.f7) ∧ w'.cell? ⟨w.heap.size + 1, 10, none⟩ = some (.slice A10 T.f8.length c10) ∧ w'.cell? ⟨w.heap.size + 1, 11, none⟩ = some (.slice A11 T.f9.length c11) ∧ w'.cell? ⟨w.heap.size + 1, 12, none⟩ = some (.slice A12 0 c12)) W) := ⟨fun W hb => ⟨hb, pw_cell_below hb y0, pw_cell_below hb y1, pw_cell_below hb z0, pw_cell_below hb z1, pw_cell_below hb z2, pw_cell_below hb z3, pw_cell_below hb z4, pw_cell_below hb z5, pw_cell_below hb z6, pw_cell_below hb z7, pw_cell_below hb z8, pw_cell_below hb z9, pw_cell_below hb z10, pw_cell_below hb z11, pw_cell_below hb z12⟩⟩
 have hi := HI.out
 have q1 : ∀ W : World, (Instr.slice 22 (.slice A9 fs.length c9) none (some (.int .i64 (i : Int))) none).run Tryz.prog W = .ok (.slice A9 i c9) W := fun W => by
  have h := cutTo22 A9 fs.length c9 (i : Int) (by omega) (by omega) HC.out.2.1 W
  rwa [Int.toNat_natCast] at h
 obtain ⟨Ad, hAd⟩ : ∃ Ad, Ad = if c9 = i then A9 else A9.map (·.add (i * 13)) := ⟨_, rfl⟩
 have q2 : ∀ W : World, (Instr.slice 22 (.slice A9 fs.length c9) (some (.int .i64 (i : Int))) none none).run Tryz.prog W = .ok (.slice Ad (fs.length - i) (c9 - i)) W := fun W => by
  have h := cutFrom22 A9 fs.length c9 (i : Int) (by omega) (by omega) W
  rw [Int.toNat_natCast, ← hAd] at h
  exact h
 have HS1 : Aside0 (∀ W, Below w7.heap.size w7 W → ReadsRow (k30.K w) 13 W A9 i (fs.take i)) := ⟨fun W hb => by
  have h := ReadsRow.imp_ (R' := k30.K w) (c30_take (m := i) HC.out.1 hi) (below_step HB6.out.1 hb) (fun _ _ hp => hp)
  have e : (fs.take i).length = i := by rw [List.length_take]; omega
  rw [e] at h
  exact h⟩
 have HS3 : Aside0 (∀ W, Below w7.heap.size w7 W → ReadsRow (k30.K w) 13 W Ad (fs.length - i) (fs.drop i)) := ⟨fun W hb => by
  have h := ReadsRow.imp_ (R' := k30.K w) (c30_drop (m := i) HC.out.1 hi HC.out.2.1) (below_step HB6.out.1 hb) (fun _ _ hp => hp)
  rw [List.length_drop, ← hAd] at h
  exact h⟩
 have HK : Aside0 (k30.K w (⟨n, o, T, []⟩ : S30) #[.string n, .bool o, .int .i64 T.f0, .int .i64 T.f1, .bool T.f2, .int .i64 T.f3, .int .i64 T.f4, .int .i64 T.f5, .string T.f6, .bool T.f7, .slice A10 T.f8.length c10, .slice A11 T.f9.length c11, .slice A12 0 c12].toList) := ⟨k30_mk w (⟨n, o, T, []⟩ : S30) HC.out.2.2.2.2.1 HC.out.2.2.2.1 HC.out.2.2.2.2.2.2.1 HC.out.2.2.2.2.2.1 (Nat.zero_le _) HC.out.2.2.2.2.2.2.2.2⟩
 have HWL : Aside0 (([] ++ fs.take i ++ [(⟨n, o, T, []⟩ : S30)]) ++ fs.drop i = want) := ⟨by rw [HQ.out]; simp⟩
 clear hi hAd
 go_cut [9] (fun v9 wc => ∃ A c, v9 = .slice A want.length c ∧ Aside0 (Below w7.heap.size w7 wc ∧ want.length ≤ c ∧ Kd.C k30 wc A want.length want))
 case first =>
  refine sc 15 (fun w' => Below w7.heap.size w7 w' ∧ w'.cell? ⟨w.heap.size, 0, none⟩ = some (.slice A9 fs.length c9) ∧ w'.cell? ⟨w.heap.size, 1, none⟩ = some (.slice Am mm.length cm) ∧ w'.cell? ⟨w.heap.size + 1, 0, none⟩ = some (.string n) ∧ w'.cell? ⟨w.heap.size + 1, 1, none⟩ = some (.bool o) ∧ w'.cell? ⟨w.heap.size + 1, 2, none⟩ = some (.int .i64 T.f0) ∧ w'.cell? ⟨w.heap.size + 1, 3, none⟩ = some (.int .i64 T.f1) ∧ w'.cell? ⟨w.heap.size + 1, 4, none⟩ = some (.bool T.f2) ∧ w'.cell? ⟨w.heap.size + 1, 5, none⟩ = some (.int .i64 T.f3) ∧ w'.cell? ⟨w.heap.size + 1, 6, none⟩ = some (.int .i64 T.f4) ∧ w'.cell? ⟨w.heap.size + 1, 7, none⟩ = some (.int .i64 T.f5) ∧ w'.cell? ⟨w.heap.size + 1, 8, none⟩ = some (.string T.f6) ∧ w'.cell? ⟨w.heap.size + 1, 9, none⟩ = some (.bool T.f7) ∧ w'.cell? ⟨w.heap.size + 1, 10, none⟩ = some (.slice A10 T.f8.length c10) ∧ w'.cell? ⟨w.heap.size + 1, 11, none⟩ = some (.slice A11 T.f9.length c11) ∧ w'.cell? ⟨w.heap.size + 1, 12, none⟩ = some (.slice A12 0 c12)) (fun hk0 v0 hs0 hb => ?_)
  clear hb y0 y1 z0 z1 z2 z3 z4 z5 z6 z7 z8 z9 z10 z11 z12
  refine pu 1 57 2 ?_
  refine ta 2 58 6 ?_
  refine pu 3 59 14 ?_
  refine pu 4 60 30 ?_
  refine ta 6 62 94 ?_
  refine pu 9 65 606 ?_
  refine ta 10 66 1630 ?_
  refine pu 11 67 3678 ?_
  refine pu 12 68 7774 ?_
  refine rdy [0, 7] (rl 0 56 7775 (.slice (some ⟨v0.heap.size, 0, none⟩) 0 0) (.cells #[] 30 (0, 0)) hk0 hs0 (fun v1 hz1 hg1 hs1 hb1 => no 56 ?_) (rl 7 63 7902 (.slice (some ⟨v0.heap.size, 0, none⟩) 1 1) (.cells #[.string n, .bool o, .int .i64 T.f0, .int .i64 T.f1, .bool T.f2, .int .i64 T.f3, .int .i64 T.f4, .int .i64 T.f5, .string T.f6, .bool T.f7, .slice A10 T.f8.length c10, .slice A11 T.f9.length c11, .slice A12 0 c12] 30 (0, 0)) hk0 hs0 (fun v1 hz1 hg1 hs1 hb1 => no 63 ?_) rn))
  ·have F1 := Fr.made w v0 w7.heap.size hs0.1.size hg1
   refine rdy [5, 7] (raz 5 61 7807 w w7.heap.size (.tmp 56) (.tmp 60) (.slice (some ⟨v0.heap.size, 0, none⟩) 0 0) [] (fs.take i) A9 i c9 F1 (HS1.out _ hs1.1) (by have := HX.out.1; have := HI.out; simp only [List.length_append, List.length_take, List.length_drop, List.length_nil, List.length_singleton]; omega) hs1.1.size (fun z2 v2 hF2 hg2 hat2 => ⟨HMK.out _ (hs1.1.grown hg2 hs1.1.size (fun q hq => Fr.base F1 q hq)), no 61 ?_⟩) (rl 7 63 7903 (.slice (some ⟨v1.heap.size, 0, none⟩) 1 1) (.cells #[.string n, .bool o, .int .i64 T.f0, .int .i64 T.f1, .bool T.f2, .int .i64 T.f3, .int .i64 T.f4, .int .i64 T.f5, .string T.f6, .bool T.f7, .slice A10 T.f8.length c10, .slice A11 T.f9.length c11, .slice A12 0 c12] 30 (0, 0)) hk0 hs1 (fun v2 hz2 hg2 hs2 hb2 => no 63 ?_) rn))
   ·have hs2 := HMK.out v2 (hs1.1.grown hg2 hs1.1.size (fun q hq => Fr.base F1 q hq))
    refine rdy [7] (rl 7 63 7935 (.slice (some ⟨v2.heap.size, 0, none⟩) 1 1) (.cells #[.string n, .bool o, .int .i64 T.f0, .int .i64 T.f1, .bool T.f2, .int .i64 T.f3, .int .i64 T.f4, .int .i64 T.f5, .string T.f6, .bool T.f7, .slice A10 T.f8.length c10, .slice A11 T.f9.length c11, .slice A12 0 c12] 30 (0, 0)) hk0 hs2 (fun v3 hz3 hg3 hs3 hb3 => no 63 ?_) rn)
    have F3 := Fr.below hF2 hb3
    have N3 : ∀ k, (z2 : Value).ownBlock = some k → k ≠ v2.heap.size := fun k hk => by
     have := Fr.lt hF2 k hk
     omega
    refine rdy [8] (raz 8 64 8191 w w7.heap.size (.tmp 61) (.tmp 63) z2 ([] ++ fs.take i) [(⟨n, o, T, []⟩ : S30)] (some ⟨v2.heap.size, 0, none⟩) 1 1 F3 (one30 HK.out hg3) (by have := HX.out.1; have := HI.out; simp only [List.length_append, List.length_take, List.length_drop, List.length_nil, List.length_singleton]; omega) hs3.1.size (fun z4 v4 hF4 hg4 hat4 => ⟨HMK.out _ (hs3.1.grown hg4 hs3.1.size (fun q hq => Fr.base F3 q hq)), no 64 ?_⟩) rn)
    have hs4 := HMK.out v4 (hs3.1.grown hg4 hs3.1.size (fun q hq => Fr.base F3 q hq))
    refine rdy [13] (raz 13 69 16383 w w7.heap.size (.tmp 64) (.tmp 68) z4 (([] ++ fs.take i) ++ [(⟨n, o, T, []⟩ : S30)]) (fs.drop i) Ad (fs.length - i) (c9 - i) hF4 (HS3.out _ hs4.1) (by have := HX.out.1; have := HI.out; simp only [List.length_append, List.length_take, List.length_drop, List.length_nil, List.length_singleton]; omega) hs4.1.size (fun z5 v5 hF5 hg5 hat5 => ⟨HMK.out _ (hs4.1.grown hg5 hs4.1.size (fun q hq => Fr.base hF4 q hq)), no 69 ?_⟩) rn)
    have hs5 := HMK.out v5 (hs4.1.grown hg5 hs4.1.size (fun q hq => Fr.base hF4 q hq))
    refine pu 14 9 32767 ?_
    refine done_ (by kernel_rfl) ?_
    have HE := Aside0.mk (And.intro (Fr.reads hF5 (below_step HB6.out.1 hs5.1)) hs5.1)
    clear hk0 hs0 hs1 hs2 hs3 hs4 hs5
    go_wp2
    go_meet
    obtain ⟨⟨A, c, e, hle, hC⟩, hB⟩ := HE.out
    rw [HWL.out] at e hle hC
    rw [e]
    exact ⟨A, c, rfl, ⟨hB, hle, hC⟩⟩
   ·have F2 := Fr.below F1 hb2
    have N2 : ∀ k, ((.slice (some ⟨v0.heap.size, 0, none⟩) 0 0) : Value).ownBlock = some k → k ≠ v1.heap.size := fun k hk => by
     have := Fr.lt F1 k hk
     omega
    refine rdy [5] (raz 5 61 7935 w w7.heap.size (.tmp 56) (.tmp 60) (.slice (some ⟨v0.heap.size, 0, none⟩) 0 0) [] (fs.take i) A9 i c9 F2 (HS1.out _ hs2.1) (by have := HX.out.1; have := HI.out; simp only [List.length_append, List.length_take, List.length_drop, List.length_nil, List.length_singleton]; omega) hs2.1.size (fun z3 v3 hF3 hg3 hat3 => ⟨HMK.out _ (hs2.1.grown hg3 hs2.1.size (fun q hq => Fr.base F2 q hq)), no 61 ?_⟩) rn)
    have hs3 := HMK.out v3 (hs2.1.grown hg3 hs2.1.size (fun q hq => Fr.base F2 q hq))
    have G3 := grown_blk hg3 hg2 (fun e => N2 _ e.symm rfl)
    have N3 : ∀ k, z3.ownBlock = some k → k ≠ v1.heap.size := fun k hk => by
     rcases hat3 with e | e
     ·exact N2 k (e ▸ hk)
     ·have := blk_lt hg2
      rw [hk] at e
      injection e with e
      omega
    refine rdy [8] (raz 8 64 8191 w w7.heap.size (.tmp 61) (.tmp 63) z3 ([] ++ fs.take i) [(⟨n, o, T, []⟩ : S30)] (some ⟨v1.heap.size, 0, none⟩) 1 1 hF3 (one30 HK.out G3) (by have := HX.out.1; have := HI.out; simp only [List.length_append, List.length_take, List.length_drop, List.length_nil, List.length_singleton]; omega) hs3.1.size (fun z4 v4 hF4 hg4 hat4 => ⟨HMK.out _ (hs3.1.grown hg4 hs3.1.size (fun q hq => Fr.base hF3 q hq)), no 64 ?_⟩) rn)
    have hs4 := HMK.out v4 (hs3.1.grown hg4 hs3.1.size (fun q hq => Fr.base hF3 q hq))
    refine rdy [13] (raz 13 69 16383 w w7.heap.size (.tmp 64) (.tmp 68) z4 (([] ++ fs.take i) ++ [(⟨n, o, T, []⟩ : S30)]) (fs.drop i) Ad (fs.length - i) (c9 - i) hF4 (HS3.out _ hs4.1) (by have := HX.out.1; have := HI.out; simp only [List.length_append, List.length_take, List.length_drop, List.length_nil, List.length_singleton]; omega) hs4.1.size (fun z5 v5 hF5 hg5 hat5 => ⟨HMK.out _ (hs4.1.grown hg5 hs4.1.size (fun q hq => Fr.base hF4 q hq)), no 69 ?_⟩) rn)
    have hs5 := HMK.out v5 (hs4.1.grown hg5 hs4.1.size (fun q hq => Fr.base hF4 q hq))
    refine pu 14 9 32767 ?_
    refine done_ (by kernel_rfl) ?_
    have HE := Aside0.mk (And.intro (Fr.reads hF5 (below_step HB6.out.1 hs5.1)) hs5.1)
    clear hk0 hs0 hs1 hs2 hs3 hs4 hs5
    go_wp2
    go_meet
    obtain ⟨⟨A, c, e, hle, hC⟩, hB⟩ := HE.out
    rw [HWL.out] at e hle hC
    rw [e]
    exact ⟨A, c, rfl, ⟨hB, hle, hC⟩⟩
  ·refine rdy [0] (rl 0 56 7903 (.slice (some ⟨v1.heap.size, 0, none⟩) 0 0) (.cells #[] 30 (0, 0)) hk0 hs1 (fun v2 hz2 hg2 hs2 hb2 => no 56 ?_) rn)
   have F2 := Fr.made w v1 w7.heap.size hs1.1.size hg2
   have G2 := blk_below hg1 hb2
   have N2 : ∀ k, (Value.slice (some ⟨v1.heap.size, 0, none⟩) 0 0).ownBlock = some k → k ≠ v0.heap.size := fun k hk => by
    have := blk_lt hg1
    simp [Value.ownBlock] at hk
    omega
   refine rdy [5] (raz 5 61 7935 w w7.heap.size (.tmp 56) (.tmp 60) (.slice (some ⟨v1.heap.size, 0, none⟩) 0 0) [] (fs.take i) A9 i c9 F2 (HS1.out _ hs2.1) (by have := HX.out.1; have := HI.out; simp only [List.length_append, List.length_take, List.length_drop, List.length_nil, List.length_singleton]; omega) hs2.1.size (fun z3 v3 hF3 hg3 hat3 => ⟨HMK.out _ (hs2.1.grown hg3 hs2.1.size (fun q hq => Fr.base F2 q hq)), no 61 ?_⟩) rn)
   have hs3 := HMK.out v3 (hs2.1.grown hg3 hs2.1.size (fun q hq => Fr.base F2 q hq))
   have G3 := grown_blk hg3 G2 (fun e => N2 _ e.symm rfl)
   have N3 : ∀ k, z3.ownBlock = some k → k ≠ v0.heap.size := fun k hk => by
    rcases hat3 with e | e
    ·exact N2 k (e ▸ hk)
    ·have := blk_lt G2
     rw [hk] at e
     injection e with e
     omega
   refine rdy [8] (raz 8 64 8191 w w7.heap.size (.tmp 61) (.tmp 63) z3 ([] ++ fs.take i) [(⟨n, o, T, []⟩ : S30)] (some ⟨v0.heap.size, 0, none⟩) 1 1 hF3 (one30 HK.out G3) (by have := HX.out.1; have := HI.out; simp only [List.length_append, List.length_take, List.length_drop, List.length_nil, List.length_singleton]; omega) hs3.1.size (fun z4 v4 hF4 hg4 hat4 => ⟨HMK.out _ (hs3.1.grown hg4 hs3.1.size (fun q hq => Fr.base hF3 q hq)), no 64 ?_⟩) rn)
   have hs4 := HMK.out v4 (hs3.1.grown hg4 hs3.1.size (fun q hq => Fr.base hF3 q hq))
   refine rdy [13] (raz 13 69 16383 w w7.heap.size (.tmp 64) (.tmp 68) z4 (([] ++ fs.take i) ++ [(⟨n, o, T, []⟩ : S30)]) (fs.drop i) Ad (fs.length - i) (c9 - i) hF4 (HS3.out _ hs4.1) (by have := HX.out.1; have := HI.out; simp only [List.length_append, List.length_take, List.length_drop, List.length_nil, List.length_singleton]; omega) hs4.1.size (fun z5 v5 hF5 hg5 hat5 => ⟨HMK.out _ (hs4.1.grown hg5 hs4.1.size (fun q hq => Fr.base hF4 q hq)), no 69 ?_⟩) rn)
   have hs5 := HMK.out v5 (hs4.1.grown hg5 hs4.1.size (fun q hq => Fr.base hF4 q hq))
   refine pu 14 9 32767 ?_
   refine done_ (by kernel_rfl) ?_
   have HE := Aside0.mk (And.intro (Fr.reads hF5 (below_step HB6.out.1 hs5.1)) hs5.1)
   clear hk0 hs0 hs1 hs2 hs3 hs4 hs5
   go_wp2
   go_meet
   obtain ⟨⟨A, c, e, hle, hC⟩, hB⟩ := HE.out
   rw [HWL.out] at e hle hC
   rw [e]
   exact ⟨A, c, rfl, ⟨hB, hle, hC⟩⟩
 obtain ⟨Aw, cw, rfl, hcw⟩ := hcut
 have HCW := Aside0.mk hcw.out
 clear hcw q1 q2 y0 y1 z0 z1 z2 z3 z4 z5 z6 z7 z8 z9 z10 z11 z12
 have g0 : wc.cell? ⟨w6.heap.size, 0, none⟩ = some (.slice Ag want.length cg) := (blk_cell (blk_below HG.out.1 HCW.out.1) 0).trans rfl
 have HFS := Aside0.mk (sf_td (SF.ins (i := i) (show SF ⟨n, o, T, []⟩ (.mk n dt o) from ⟨n, o, T, dt, rfl, rfl, HD.out.2, HX.out.2.2⟩) HD.out.1))
 rw [← HQ.out] at HFS
 have HWN := Aside0.mk (show want.length ≤ 1000 from by rw [HQ.out]; have := HX.out.1; simp only [List.length_append, List.length_take, List.length_cons, List.length_drop]; omega)
 go_wp2_with (go_at_call 12; fail)
 refine (same12 want HFS.out HWN.out Ag Aw cg cw wc (Kd.C_below (rowB_C HG.out.2).2 HCW.out.1) HCW.out.2.2).mono ?_
 rintro e w8 ⟨rfl, hb8⟩
 have HB8 := Aside0.mk (And.intro (below_step (below_step HB6.out.1 HCW.out.1) hb8) True.intro)
 clear hb8 g0
 go_wp2_with (go_at_call 10; fail)
 refine (finds10 _).mono ?_
 rintro e wF ⟨rfl, hbF⟩
 have HF := Aside0.mk (below_step HB8.out.1 hbF)
 clear hbF
 go_wp2
 go_ret
 exact ⟨rfl, HF.out⟩
end Go.Proofs.YteebgnhhjlgnjaaGreatDoor.V
