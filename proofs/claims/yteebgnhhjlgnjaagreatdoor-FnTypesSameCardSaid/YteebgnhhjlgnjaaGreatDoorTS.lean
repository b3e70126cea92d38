/- impl.TypesSame. -/
import Derived.Test.YteebgnhhjlgnjaaGreatDoorTV
import Derived.Test.YteebgnhhjlgnjaaGreatDoorSS
import Derived.Test.YteebgnhhjlgnjaaGreatDoorAF
import Derived.Test.YteebgnhhjlgnjaaGreatDoorAD
import Derived.Test.YteebgnhhjlgnjaaGreatDoorRT
namespace Go.Proofs.YteebgnhhjlgnjaaGreatDoor.V
open Go.RowKit Go.Proofs.YteebgnhhjlgnjaaGreatDoorW.PrintWords Go.Proofs.YteebgnhhjlgnjaaGreatDoorW.PrintLast Go.Proofs.YteebgnhhjlgnjaaGreatDoorW.PrintMore
set_option maxHeartbeats 40000000
set_option maxRecDepth 100000
set_option linter.unusedVariables false
set_option linter.unusedSimpArgs false
theorem catch33 (p q r : Addr) (w : World) :
 CallsD Tryz.prog 33 #[.pointer (some p), .pointer (some q), .pointer (some r)] .returning w fun e u' w' => e = .returned (.tuple #[]) ∧ u' = .returning ∧ w = w' := by
 refine callsD_of_wpS Tryz.func33 rfl fun c₀ cs hu => ?_
 apply wpS_seq
 apply wpS_region
 simp [wpOpsS, go_sem, recoverD, hu, Tryz.ntmps33, Exit.thenS]
 refine wpS_cond (t := false) (by simp [Act.eval, Array.replicate]) ?_
 simp only [Bool.false_eq_true, if_false]
 refine wpS_of_wp (wp_skip ?_)
 cases c₀
 simp_all [bodyPostS, results, Tryz.results33]
theorem meta36 (w : World) : Calls Tryz.prog 36 #[] w fun e w' => e = .returned (.func (.func 74) #[] #[]) ∧ Below w.heap.size w w' := by
 have hmf : ∀ (fn : Fn) (first cap : Array Value) (w : World), (Instr.makeFunc fn first cap).run Tryz.prog w = .ok (.func fn first cap) w := fun _ _ _ _ => rfl
 go_enter Tryz.func36, Tryz.ntmps36
 go_wp2
 go_ret
 exact ⟨rfl, bl⟩
theorem made' {T : S28} {d : DT} (h : MakesT T d) (w : World) (A8 A9 : Option Addr) (c8 c9 : Nat) (g8 : Kd.C (Kd.int .i64) w A8 T.f8.length T.f8) (g9 : Kd.C k30 w A9 T.f9.length T.f9) :
 Calls Tryz.prog 34 #[.agg #[.int .i64 T.f0, .int .i64 T.f1, .bool T.f2, .int .i64 T.f3, .int .i64 T.f4, .int .i64 T.f5, .string T.f6, .bool T.f7, .slice A8 T.f8.length c8, .slice A9 T.f9.length c9]] w fun e w' => (∃ v, e = .returned v ∧ DTIn w' (fun k => w.heap.size ≤ k) d v) ∧ Below w.heap.size w w' :=
 (h w A8 A9 c8 c9 g8 g9).mono fun e w' h => by obtain ⟨v, h1, h2, h3⟩ := h; exact ⟨⟨v, h1, h2⟩, h3⟩
theorem DTIn.bound {W : World} {ok : Nat → Prop} {d : DT} {v : Value} (h : DTIn W ok d v) : DTIn W (fun k => ok k ∧ k < W.heap.size) d v :=
 DTIn.step (W := W) (W' := W) (fun k q cells hk hl _ hc => ⟨hc, hk, hl⟩) h
def Tells3 (e : Ending) (p : Prop) : Prop := ∃ b, e = .returned (.tuple #[.bool b, .bool b, .bool true]) ∧ (b = true ↔ p)
theorem tells3 {b : Bool} {p : Prop} (h : b = true ↔ p) : Tells3 (.returned (.tuple #[.bool b, .bool b, .bool true])) p := ⟨b, rfl, h⟩
theorem types18 (n : Nat) (T T' : S28) (d d' : DT) (hd : TD n T d) (hd' : TD n T' d') (w : World) (A8 A9 A8' A9' : Option Addr) (c8 c9 c8' c9' : Nat) (g8 : Kd.C (Kd.int .i64) w A8 T.f8.length T.f8) (g9 : Kd.C k30 w A9 T.f9.length T.f9) (g8' : Kd.C (Kd.int .i64) w A8' T'.f8.length T'.f8) (g9' : Kd.C k30 w A9' T'.f9.length T'.f9) :
 Calls Tryz.prog 18 #[.agg #[.int .i64 T.f0, .int .i64 T.f1, .bool T.f2, .int .i64 T.f3, .int .i64 T.f4, .int .i64 T.f5, .string T.f6, .bool T.f7, .slice A8 T.f8.length c8, .slice A9 T.f9.length c9], .agg #[.int .i64 T'.f0, .int .i64 T'.f1, .bool T'.f2, .int .i64 T'.f3, .int .i64 T'.f4, .int .i64 T'.f5, .string T'.f6, .bool T'.f7, .slice A8' T'.f8.length c8', .slice A9' T'.f9.length c9']] w fun e w' => Tells3 e (d = d') ∧ Below w.heap.size w w' := by
 have HC := Aside0.mk (And.intro hd (And.intro hd' (And.intro g8 (And.intro g9 (And.intro g8' g9')))))
 clear hd hd' g8 g9 g8' g9'
 obtain ⟨P, hP⟩ : ∃ P : Prop, P = (d = d') := ⟨_, rfl⟩
 rw [← hP]
 have HP := Aside0.mk hP
 clear hP
 have hmf : ∀ (fn : Fn) (first cap : Array Value) (w : World), (Instr.makeFunc fn first cap).run Tryz.prog w = .ok (.func fn first cap) w := fun _ _ _ _ => rfl
 go_enter_defers Tryz.func18, Tryz.ntmps18
 go_upto_region 2 with fail
 clear hmf
 refine wp_region_noPanic ?_
 refine wp_at ?_
 intro w1 hw1
 have b1 : Below w.heap.size w w1 := by rw [hw1]; repeat (first | exact Below.refl _ _ | apply b1_ | apply b2_ | apply b3_)
 have k1 : w1.heap[w.heap.size]? = some (.cells #[.int .i64 T.f0, .int .i64 T.f1, .bool T.f2, .int .i64 T.f3, .int .i64 T.f4, .int .i64 T.f5, .string T.f6, .bool T.f7, .slice A8 T.f8.length c8, .slice A9 T.f9.length c9] 28 (0, 0)) := by rw [hw1]; exact blk_alloc_ (blk_alloc_ (blk_alloc_ (blk_alloc_ (blk_new _ _))))
 have k2 : w1.heap[w.heap.size + 1]? = some (.cells #[.int .i64 T'.f0, .int .i64 T'.f1, .bool T'.f2, .int .i64 T'.f3, .int .i64 T'.f4, .int .i64 T'.f5, .string T'.f6, .bool T'.f7, .slice A8' T'.f8.length c8', .slice A9' T'.f9.length c9'] 28 (0, 0)) := by rw [hw1]; exact blk_alloc_ (blk_alloc_ (blk_alloc_ (blk_new_at (by simp [alloc_size_]))))
 have r4 : w1.heap[w.heap.size + 2]? = some (.cells #[.bool false] 4 (0, 0)) := by rw [hw1]; exact blk_alloc_ (blk_alloc_ (blk_new_at (by simp [alloc_size_])))
 have r5 : w1.heap[w.heap.size + 3]? = some (.cells #[.bool false] 4 (0, 0)) := by rw [hw1]; exact blk_alloc_ (blk_new_at (by simp [alloc_size_]))
 have r6 : w1.heap[w.heap.size + 4]? = some (.cells #[.bool false] 4 (0, 0)) := by rw [hw1]; exact blk_new_at (by simp [alloc_size_])
 clear hw1
 have HB := Aside0.mk (And.intro b1 (And.intro r4 (And.intro r5 r6)))
 obtain ⟨y0, y1, y2, y3, y4, y5, y6, y7, y8, y9⟩ := cb10 k1
 obtain ⟨z0, z1, z2, z3, z4, z5, z6, z7, z8, z9⟩ := cb10 k2
 refine sc 6 (fun w' => Below w1.heap.size w1 w' ∧ w'.cell? ⟨w.heap.size, 0, none⟩ = some (.int .i64 T.f0) ∧ w'.cell? ⟨w.heap.size, 1, none⟩ = some (.int .i64 T.f1) ∧ w'.cell? ⟨w.heap.size, 2, none⟩ = some (.bool T.f2) ∧ w'.cell? ⟨w.heap.size, 3, none⟩ = some (.int .i64 T.f3) ∧ w'.cell? ⟨w.heap.size, 4, none⟩ = some (.int .i64 T.f4) ∧ w'.cell? ⟨w.heap.size, 5, none⟩ = some (.int .i64 T.f5) ∧ w'.cell? ⟨w.heap.size, 6, none⟩ = some (.string T.f6) ∧ w'.cell? ⟨w.heap.size, 7, none⟩ = some (.bool T.f7) ∧ w'.cell? ⟨w.heap.size, 8, none⟩ = some (.slice A8 T.f8.length c8) ∧ w'.cell? ⟨w.heap.size, 9, none⟩ = some (.slice A9 T.f9.length c9) ∧ w'.cell? ⟨w.heap.size + 1, 0, none⟩ = some (.int .i64 T'.f0) ∧ w'.cell? ⟨w.heap.size + 1, 1, none⟩ = some (.int .i64 T'.f1) ∧ w'.cell? ⟨w.heap.size + 1, 2, none⟩ = some (.bool T'.f2) ∧ w'.cell? ⟨w.heap.size + 1, 3, none⟩ = some (.int .i64 T'.f3) ∧ w'.cell? ⟨w.heap.size + 1, 4, none⟩ = some (.int .i64 T'.f4) ∧ w'.cell? ⟨w.heap.size + 1, 5, none⟩ = some (.int .i64 T'.f5) ∧ w'.cell? ⟨w.heap.size + 1, 6, none⟩ = some (.string T'.f6) ∧ w'.cell? ⟨w.heap.size + 1, 7, none⟩ = some (.bool T'.f7) ∧ w'.cell? ⟨w.heap.size + 1, 8, none⟩ = some (.slice A8' T'.f8.length c8') ∧ w'.cell? ⟨w.heap.size + 1, 9, none⟩ = some (.slice A9' T'.f9.length c9')) (fun hk w2 hs hb => ?_)
 clear b1 k1 k2 r4 r5 r6 hb y0 z0 y1 z1 y2 z2 y3 z3 y4 z4 y5 z5 y6 z6 y7 z7 y8 z8 y9 z9
 refine ta 0 10 1 ?_
 refine ta 2 12 5 ?_
 have hB := below_step HB.out.1 hs.1
 refine ca 1 11 7 Tryz.func34 #[.agg #[.int .i64 T.f0, .int .i64 T.f1, .bool T.f2, .int .i64 T.f3, .int .i64 T.f4, .int .i64 T.f5, .string T.f6, .bool T.f7, .slice A8 T.f8.length c8, .slice A9 T.f9.length c9]] hk hs (made' (makesT n T d HC.out.1) w2 A8 A9 c8 c9 (Kd.C_below HC.out.2.2.1 hB) (Kd.C_below HC.out.2.2.2.1 hB)) (fun e w3 hR hs3 hb3 => ?_)
 obtain ⟨v, rfl, hx⟩ := hR
 refine ⟨_, rfl, no 11 ?_⟩
 clear hB hs
 have hB := below_step HB.out.1 hs3.1
 refine ca 3 13 15 Tryz.func34 #[.agg #[.int .i64 T'.f0, .int .i64 T'.f1, .bool T'.f2, .int .i64 T'.f3, .int .i64 T'.f4, .int .i64 T'.f5, .string T'.f6, .bool T'.f7, .slice A8' T'.f8.length c8', .slice A9' T'.f9.length c9']] hk hs3 (made' (makesT n T' d' HC.out.2.1) w3 A8' A9' c8' c9' (Kd.C_below HC.out.2.2.2.2.1 hB) (Kd.C_below HC.out.2.2.2.2.2 hB)) (fun e w4 hR hs4 hb4 => ?_)
 obtain ⟨v', rfl, hx'⟩ := hR
 refine ⟨_, rfl, no 13 ?_⟩
 refine pu 4 7 31 ?_
 refine pu 5 8 63 ?_
 refine done_ (by kernel_rfl) ?_
 refine NoPanic.normal ?_
 obtain ⟨q, a, rfl⟩ := hx.form
 obtain ⟨q', a', rfl⟩ := hx'.form
 have HX := Aside0.mk (And.intro (hx.bound.below hb4) (And.intro hx' (show ∀ k, (w2.heap.size ≤ k ∧ k < w3.heap.size) → w3.heap.size ≤ k → False from fun k h1 h2 => by omega)))
 have HB4 := Aside0.mk (below_step HB.out.1 hs4.1)
 have HR4 := Aside0.mk (And.intro (blk_below HB.out.2.1 hs4.1) (And.intro (blk_below HB.out.2.2.1 hs4.1) (blk_below HB.out.2.2.2 hs4.1)))
 clear hx hx' hs3 hs4 hb3 hb4 hB hk HB
 go_wp2_with (go_at_call 35; fail)
 refine (teC n T T' d d' _ _ w4 _ _ none 0 HC.out.1 HC.out.2.1 HX.out.1 HX.out.2.1 HX.out.2.2 (.inl ⟨rfl, rfl⟩)).mono ?_
 rintro e w5 ⟨⟨r, rfl, hr⟩, hb5⟩
 have HRR := Aside0.mk hr
 have HB5 := Aside0.mk hb5
 clear hr hb5
 go_wp2_with (go_at_call 36; fail)
 refine (meta36 w5).mono ?_
 rintro e w6 ⟨rfl, hb6⟩
 have HB6 := Aside0.mk (below_step HB5.out hb6)
 clear hb6
 go_wp2_with (go_at_call 35; fail)
 refine calls_at ?_
 intro w7 hw7
 have b7 : Below w6.heap.size w6 w7 := by rw [hw7]; repeat (first | exact Below.refl _ _ | apply b1_ | apply b2_ | apply b3_)
 have k7 : w7.heap[w6.heap.size]? = some (.cells #[.func (.func 74) #[] #[]] 70 (0, 0)) := by rw [hw7]; exact blk_new _ _
 clear hw7
 have HB7 := Aside0.mk (below_step HB6.out b7)
 refine (teC n T T' d d' _ _ w7 _ _ (some ⟨w6.heap.size, 0, none⟩) 1 HC.out.1 HC.out.2.1 (HX.out.1.below HB7.out) (HX.out.2.1.below HB7.out) HX.out.2.2 (.inr ⟨rfl, _, rfl, k7⟩)).mono ?_
 rintro e w8 ⟨⟨r2, rfl, hr2⟩, hb8⟩
 have hbb := below_step HB7.out hb8
 have hrr : r2 = r := by
  have h1 := HRR.out
  cases r <;> cases r2 <;> simp_all
 subst hrr
 have R4 := blk_below HR4.out.1 hbb
 have R5 := blk_below HR4.out.2.1 hbb
 have R6 := blk_below HR4.out.2.2 hbb
 have HZ := Aside0.mk (And.intro R4 (And.intro R5 (And.intro R6 (below_step HB4.out hbb))))
 have c4 : w8.cell? ⟨w.heap.size + 2, 0, none⟩ = some (.bool false) := (blk_cell R4 0).trans rfl
 have c5 : w8.cell? ⟨w.heap.size + 3, 0, none⟩ = some (.bool false) := (blk_cell R5 0).trans rfl
 have c6 : w8.cell? ⟨w.heap.size + 4, 0, none⟩ = some (.bool false) := (blk_cell R6 0).trans rfl
 have f4 := blk_frozen R4 0
 have f5 := blk_frozen R5 0
 have f6 := blk_frozen R6 0
 clear R4 R5 R6 hbb hb8 hr2 k7 b7
 go_wp2
 refine leaves_cons (f := 33) (args := #[.pointer (some ⟨w.heap.size + 2, 0, none⟩), .pointer (some ⟨w.heap.size + 3, 0, none⟩), .pointer (some ⟨w.heap.size + 4, 0, none⟩)]) (by simp) (by simp [go_sem]) ?_
 refine (catch33 _ _ _ _).mono ?_
 rintro e u' w'' ⟨rfl, rfl, rfl⟩
 obtain ⟨R4, R5, R6, bF⟩ := HZ.out
 have n4 := blk_other_ (i := 0) (u := .bool true) (show w.heap.size + 2 ≠ w.heap.size + 4 by omega) (blk_other_ (i := 0) (u := .bool r2) (show w.heap.size + 2 ≠ w.heap.size + 3 by omega) (blk_put_at (i := 0) (u := .bool r2) R4 rfl))
 have n5 := blk_other_ (i := 0) (u := .bool true) (show w.heap.size + 3 ≠ w.heap.size + 4 by omega) (blk_put_at (i := 0) (u := .bool r2) (blk_other_ (i := 0) (u := .bool r2) (show w.heap.size + 3 ≠ w.heap.size + 2 by omega) R5) rfl)
 have n6 := blk_put_at (i := 0) (u := .bool true) (blk_other_ (i := 0) (u := .bool r2) (show w.heap.size + 4 ≠ w.heap.size + 3 by omega) (blk_other_ (i := 0) (u := .bool r2) (show w.heap.size + 4 ≠ w.heap.size + 2 by omega) R6)) rfl
 have e4 := (blk_cell n4 0).trans (show _ = some (Value.bool r2) from rfl)
 have e5 := (blk_cell n5 0).trans (show _ = some (Value.bool r2) from rfl)
 have e6 := (blk_cell n6 0).trans (show _ = some (Value.bool true) from rfl)
 simp [Leaves, settle, results, Tryz.results18, go_sem, e4, e5, e6]
 exact ⟨tells3 (HRR.out.trans (by rw [HP.out])), ((bF.setCell (by dsimp only; omega) _).setCell (by dsimp only; omega) _).setCell (by dsimp only; omega) _⟩
theorem fits15 (T : S28) (w : World) (A8 A9 : Option Addr) (c8 c9 : Nat) : Calls Tryz.prog 15 #[.agg #[.int .i64 T.f0, .int .i64 T.f1, .bool T.f2, .int .i64 T.f3, .int .i64 T.f4, .int .i64 T.f5, .string T.f6, .bool T.f7, .slice A8 T.f8.length c8, .slice A9 T.f9.length c9]] w fun e w' => (∃ b, e = .returned (.bool b) ∧ True) ∧ Below w.heap.size w w' := by
 obtain ⟨R, hR⟩ : ∃ R : Ending → Prop, R = fun e => (∃ b, e = .returned (.bool b) ∧ True) := ⟨_, rfl⟩
 rw [show (fun (e : Ending) (w' : World) => (∃ b, e = .returned (.bool b) ∧ True) ∧ Below w.heap.size w w') = (fun e w' => R e ∧ Below w.heap.size w w') from by rw [hR]]
 have HR := Aside0.mk (show ∀ b, R (.returned (.bool b)) from fun b => by rw [hR]; exact ⟨b, rfl, trivial⟩)
 clear hR
 by_cases h : (2147483647 : Int) < (T.f6.size : Int)
 ·have q : decide ((2147483647 : Int) < (T.f6.size : Int)) = true := decide_eq_true h
  have q2 : ((2147483647 : Int) < (T.f6.size : Int)) = True := eq_true h
  clear h
  go_enter Tryz.func15, Tryz.ntmps15
  go_wp2
  go_ret
  exact ⟨HR.out _, bl⟩
 have q : decide ((2147483647 : Int) < (T.f6.size : Int)) = false := decide_eq_false h
 have q2 : ((2147483647 : Int) < (T.f6.size : Int)) = False := eq_false h
 clear h
 by_cases h : (2147483647 : Int) < (T.f8.length : Int)
 ·have p : decide ((2147483647 : Int) < (T.f8.length : Int)) = true := decide_eq_true h
  have p2 : ((2147483647 : Int) < (T.f8.length : Int)) = True := eq_true h
  clear h
  go_enter Tryz.func15, Tryz.ntmps15
  go_wp2
  go_ret
  exact ⟨HR.out _, bl⟩
 have p : decide ((2147483647 : Int) < (T.f8.length : Int)) = false := decide_eq_false h
 have p2 : ((2147483647 : Int) < (T.f8.length : Int)) = False := eq_false h
 clear h
 by_cases h : (2147483647 : Int) < (T.f9.length : Int)
 ·have r : decide ((2147483647 : Int) < (T.f9.length : Int)) = true := decide_eq_true h
  have r2 : ((2147483647 : Int) < (T.f9.length : Int)) = True := eq_true h
  clear h
  go_enter Tryz.func15, Tryz.ntmps15
  go_wp2
  go_ret
  exact ⟨HR.out _, bl⟩
 have r : decide ((2147483647 : Int) < (T.f9.length : Int)) = false := decide_eq_false h
 have r2 : ((2147483647 : Int) < (T.f9.length : Int)) = False := eq_false h
 clear h
 go_enter Tryz.func15, Tryz.ntmps15
 go_wp2
 go_ret
 exact ⟨HR.out _, bl⟩
def tText : S28 := ⟨5, 0, false, 0, 0, 0, emp, false, [], []⟩
theorem td_text : TD 1 tText (.zero 135) := TDs.zero 5 0 false 0 135 (by decide)
def vz (k : Int) : Value := .agg #[.int .i64 k, .int .i64 0, .bool false, .int .i64 0, .int .i64 0, .int .i64 0, .string emp, .bool false, .slice none 0 0, .slice none 0 0]
theorem bb18 (w : World) : Calls Tryz.prog 18 #[vz 6, vz 6] w fun e w' => e = .returned (.tuple #[.bool true, .bool true, .bool true]) ∧ Below w.heap.size w w' :=
 (types18 1 tBool tBool _ _ td_bool td_bool w none none none none 0 0 0 0 (Kd.C_nil _ _) (Kd.C_nil _ _) (Kd.C_nil _ _) (Kd.C_nil _ _)).mono fun e w' h => by
  obtain ⟨⟨b, rfl, hb⟩, h2⟩ := h
  rw [hb.mpr rfl]
  exact ⟨rfl, h2⟩
theorem bt18 (w : World) : Calls Tryz.prog 18 #[vz 6, vz 5] w fun e w' => e = .returned (.tuple #[.bool false, .bool false, .bool true]) ∧ Below w.heap.size w w' :=
 (types18 1 tBool tText _ _ td_bool td_text w none none none none 0 0 0 0 (Kd.C_nil _ _) (Kd.C_nil _ _) (Kd.C_nil _ _) (Kd.C_nil _ _)).mono fun e w' h => by
  obtain ⟨⟨b, rfl, hb⟩, h2⟩ := h
  cases b with
  | false => exact ⟨rfl, h2⟩
  | true => have := hb.mp rfl; simp at this
theorem types17 (w : World) : Calls Tryz.prog 17 #[] w fun e w' => e = .returned (.bool true) ∧ Below w.heap.size w w' := by
 go_enter Tryz.func17, Tryz.ntmps17
 go_wp2_with (go_at_call 18; fail)
 refine calls_at ?_
 intro w1 hw1
 have b1 : Below w.heap.size w w1 := by rw [hw1]; go_grown
 have k1 : w1.heap[w.heap.size]? = some (.cells #[.int .i64 6, .int .i64 0, .bool false, .int .i64 0, .int .i64 0, .int .i64 0, .string emp, .bool false, .slice none 0 0, .slice none 0 0] 28 (0, 0)) := by rw [hw1]; exact blk_alloc_ (blk_new _ _)
 have k2 : w1.heap[w.heap.size + 1]? = some (.cells #[.int .i64 5, .int .i64 0, .bool false, .int .i64 0, .int .i64 0, .int .i64 0, .string emp, .bool false, .slice none 0 0, .slice none 0 0] 28 (0, 0)) := by rw [hw1]; exact blk_new_at (by rw [alloc_size_])
 clear hw1
 refine (bb18 w1).mono ?_
 rintro e w2 ⟨rfl, hb2⟩
 obtain ⟨y0, y1, y2, y3, y4, y5, y6, y7, y8, y9⟩ := cb10 (blk_below k1 hb2)
 obtain ⟨z0, z1, z2, z3, z4, z5, z6, z7, z8, z9⟩ := cb10 (blk_below k2 hb2)
 have HB := Aside0.mk (below_step b1 hb2)
 clear b1 k1 k2 hb2
 go_wp2_with (go_at_call 18; fail)
 refine (bt18 w2).mono ?_
 rintro e w3 ⟨rfl, hb3⟩
 have HB3 := Aside0.mk (below_step HB.out hb3)
 clear hb3 y0 z0 y1 z1 y2 z2 y3 z3 y4 z4 y5 z5 y6 z6 y7 z7 y8 z8 y9 z9
 go_wp2
 go_ret
 exact ⟨rfl, HB3.out⟩
theorem law5 (T T' : S28) (w : World) (A8 A9 A8' A9' : Option Addr) (c8 c9 c8' c9' : Nat) (hT : Tabs w) (hS : SzT T) (hS' : SzT T') (g8 : Kd.C (Kd.int .i64) w A8 T.f8.length T.f8) (l8 : T.f8.length ≤ c8) (g9 : Kd.C k30 w A9 T.f9.length T.f9) (l9 : T.f9.length ≤ c9) (g8' : Kd.C (Kd.int .i64) w A8' T'.f8.length T'.f8) (l8' : T'.f8.length ≤ c8') (g9' : Kd.C k30 w A9' T'.f9.length T'.f9) (l9' : T'.f9.length ≤ c9') :
 Calls Tryz.prog 5 #[.agg #[.int .i64 T.f0, .int .i64 T.f1, .bool T.f2, .int .i64 T.f3, .int .i64 T.f4, .int .i64 T.f5, .string T.f6, .bool T.f7, .slice A8 T.f8.length c8, .slice A9 T.f9.length c9], .agg #[.int .i64 T'.f0, .int .i64 T'.f1, .bool T'.f2, .int .i64 T'.f3, .int .i64 T'.f4, .int .i64 T'.f5, .string T'.f6, .bool T'.f7, .slice A8' T'.f8.length c8', .slice A9' T'.f9.length c9']] w fun e w' => e = .returned (.bool true) ∧ Below w.heap.size w w' := by
 have HT := Aside0.mk (And.intro hT (And.intro hS hS'))
 have HC := Aside0.mk (And.intro g8 (And.intro l8 (And.intro g9 l9)))
 have HC' := Aside0.mk (And.intro g8' (And.intro l8' (And.intro g9' l9')))
 clear hT hS hS' g8 l8 g9 l9 g8' l8' g9' l9'
 go_enter Tryz.func5, Tryz.ntmps5
 go_wp2_with (go_at_call 15; fail)
 refine calls_at ?_
 intro w1 hw1
 have b1 : Below w.heap.size w w1 := by rw [hw1]; repeat (first | exact Below.refl _ _ | apply b1_ | apply b2_ | apply b3_)
 have k1 : w1.heap[w.heap.size]? = some (.cells #[.int .i64 T.f0, .int .i64 T.f1, .bool T.f2, .int .i64 T.f3, .int .i64 T.f4, .int .i64 T.f5, .string T.f6, .bool T.f7, .slice A8 T.f8.length c8, .slice A9 T.f9.length c9] 28 (0, 0)) := by rw [hw1]; exact blk_alloc_ (blk_new _ _)
 have k2 : w1.heap[w.heap.size + 1]? = some (.cells #[.int .i64 T'.f0, .int .i64 T'.f1, .bool T'.f2, .int .i64 T'.f3, .int .i64 T'.f4, .int .i64 T'.f5, .string T'.f6, .bool T'.f7, .slice A8' T'.f8.length c8', .slice A9' T'.f9.length c9'] 28 (0, 0)) := by rw [hw1]; exact blk_new_at (by rw [alloc_size_])
 clear hw1
 have HB0 := Aside0.mk (And.intro b1 (And.intro k1 k2))
 clear b1 k1 k2
 refine (fits15 T w1 A8 A9 c8 c9).mono ?_
 rintro e w2 ⟨⟨b1, rfl, _⟩, hb⟩
 have HB1 := Aside0.mk (And.intro (below_step HB0.out.1 hb) (And.intro (blk_below HB0.out.2.1 hb) (blk_below HB0.out.2.2 hb)))
 clear hb
 obtain ⟨y0, y1, y2, y3, y4, y5, y6, y7, y8, y9⟩ := cb10 (HB1.out.2.1)
 obtain ⟨z0, z1, z2, z3, z4, z5, z6, z7, z8, z9⟩ := cb10 (HB1.out.2.2)
 cases b1 with
 | false =>
  go_wp2
  go_ret
  exact ⟨rfl, HB1.out.1⟩
 | true =>
  go_wp2_with (go_at_call 15; fail)
  refine (fits15 T' w2 A8' A9' c8' c9').mono ?_
  rintro e w3 ⟨⟨b2, rfl, _⟩, hb⟩
  have HB2 := Aside0.mk (And.intro (below_step HB1.out.1 hb) (And.intro (blk_below HB1.out.2.1 hb) (blk_below HB1.out.2.2 hb)))
  clear hb y0 z0 y1 z1 y2 z2 y3 z3 y4 z4 y5 z5 y6 z6 y7 z7 y8 z8 y9 z9
  obtain ⟨y0, y1, y2, y3, y4, y5, y6, y7, y8, y9⟩ := cb10 (HB2.out.2.1)
  obtain ⟨z0, z1, z2, z3, z4, z5, z6, z7, z8, z9⟩ := cb10 (HB2.out.2.2)
  cases b2 with
  | false =>
   go_wp2
   go_ret
   exact ⟨rfl, HB2.out.1⟩
  | true =>
   go_wp2_with (go_at_call 16; fail)
   refine (asked16 T w3 A8 A9 c8 c9 (HT.out.1.below (B := 0) HB2.out.1) HT.out.2.1 (Kd.C_below HC.out.1 HB2.out.1) HC.out.2.1 (Kd.C_below HC.out.2.2.1 HB2.out.1) HC.out.2.2.2).mono ?_
   rintro e w4 ⟨⟨b3, rfl, ha⟩, hb⟩
   have HB3 := Aside0.mk (And.intro (below_step HB2.out.1 hb) (And.intro (blk_below HB2.out.2.1 hb) (blk_below HB2.out.2.2 hb)))
   clear hb y0 z0 y1 z1 y2 z2 y3 z3 y4 z4 y5 z5 y6 z6 y7 z7 y8 z8 y9 z9
   have HA := Aside0.mk ha
   clear ha
   obtain ⟨y0, y1, y2, y3, y4, y5, y6, y7, y8, y9⟩ := cb10 (HB3.out.2.1)
   obtain ⟨z0, z1, z2, z3, z4, z5, z6, z7, z8, z9⟩ := cb10 (HB3.out.2.2)
   cases b3 with
   | false =>
    go_wp2_with (go_at_call 17; fail)
    refine (types17 w4).mono ?_
    rintro e v1 ⟨rfl, hb⟩
    have HV := Aside0.mk (below_step HB3.out.1 hb)
    clear hb y0 z0 y1 z1 y2 z2 y3 z3 y4 z4 y5 z5 y6 z6 y7 z7 y8 z8 y9 z9
    go_wp2
    go_ret
    exact ⟨rfl, HV.out⟩
   | true =>
    go_wp2_with (go_at_call 16; fail)
    refine (asked16 T' w4 A8' A9' c8' c9' (HT.out.1.below (B := 0) HB3.out.1) HT.out.2.2 (Kd.C_below HC'.out.1 HB3.out.1) HC'.out.2.1 (Kd.C_below HC'.out.2.2.1 HB3.out.1) HC'.out.2.2.2).mono ?_
    rintro e w5 ⟨⟨b4, rfl, ha'⟩, hb⟩
    have HB4 := Aside0.mk (And.intro (below_step HB3.out.1 hb) (And.intro (blk_below HB3.out.2.1 hb) (blk_below HB3.out.2.2 hb)))
    clear hb y0 z0 y1 z1 y2 z2 y3 z3 y4 z4 y5 z5 y6 z6 y7 z7 y8 z8 y9 z9
    have HA' := Aside0.mk ha'
    clear ha'
    obtain ⟨y0, y1, y2, y3, y4, y5, y6, y7, y8, y9⟩ := cb10 (HB4.out.2.1)
    obtain ⟨z0, z1, z2, z3, z4, z5, z6, z7, z8, z9⟩ := cb10 (HB4.out.2.2)
    cases b4 with
    | false =>
     go_wp2_with (go_at_call 17; fail)
     refine (types17 w5).mono ?_
     rintro e v1 ⟨rfl, hb⟩
     have HV := Aside0.mk (below_step HB4.out.1 hb)
     clear hb y0 z0 y1 z1 y2 z2 y3 z3 y4 z4 y5 z5 y6 z6 y7 z7 y8 z8 y9 z9
     go_wp2
     go_ret
     exact ⟨rfl, HV.out⟩
    | true =>
     obtain ⟨hr, hu⟩ := HA.out (by first | rfl | trivial)
     obtain ⟨hr', hu'⟩ := HA'.out (by first | rfl | trivial)
     obtain ⟨d, d', hd, hd', hdd⟩ := td_two hr hu hr' hu'
     have HD := Aside0.mk (And.intro hd (And.intro hd' hdd))
     clear hr hu hr' hu' hd hd' hdd
     go_wp2_with (go_at_call 18; fail)
     refine (types18 4 T T' d d' HD.out.1 HD.out.2.1 w5 A8 A9 A8' A9' c8 c9 c8' c9' (Kd.C_below HC.out.1 HB4.out.1) (Kd.C_below HC.out.2.2.1 HB4.out.1) (Kd.C_below HC'.out.1 HB4.out.1) (Kd.C_below HC'.out.2.2.1 HB4.out.1)).mono ?_
     rintro e w6 ⟨⟨r, rfl, hr⟩, hb⟩
     have HB5 := Aside0.mk (And.intro (below_step HB4.out.1 hb) (And.intro (blk_below HB4.out.2.1 hb) (blk_below HB4.out.2.2 hb)))
     clear hb y0 z0 y1 z1 y2 z2 y3 z3 y4 z4 y5 z5 y6 z6 y7 z7 y8 z8 y9 z9
     have HRR := Aside0.mk hr
     clear hr
     obtain ⟨y0, y1, y2, y3, y4, y5, y6, y7, y8, y9⟩ := cb10 (HB5.out.2.1)
     obtain ⟨z0, z1, z2, z3, z4, z5, z6, z7, z8, z9⟩ := cb10 (HB5.out.2.2)
     go_wp2_with (go_at_call 19; fail)
     refine (sm19C 4 T T' d d' HD.out.1 HD.out.2.1 w6 A8 A9 A8' A9' c8 c9 c8' c9' (Kd.C_below HC.out.1 HB5.out.1) (Kd.C_below HC.out.2.2.1 HB5.out.1) (Kd.C_below HC'.out.1 HB5.out.1) (Kd.C_below HC'.out.2.2.1 HB5.out.1)).mono ?_
     rintro e w7 ⟨⟨r2, rfl, hr2⟩, hb⟩
     have HB6 := Aside0.mk (And.intro (below_step HB5.out.1 hb) (And.intro (blk_below HB5.out.2.1 hb) (blk_below HB5.out.2.2 hb)))
     clear hb y0 z0 y1 z1 y2 z2 y3 z3 y4 z4 y5 z5 y6 z6 y7 z7 y8 z8 y9 z9
     have hrr : r2 = r := by
      have h1 := HRR.out
      have h2 := HD.out.2.2
      cases r <;> cases r2 <;> simp_all
     subst hrr
     clear hr2
     obtain ⟨y0, y1, y2, y3, y4, y5, y6, y7, y8, y9⟩ := cb10 (HB6.out.2.1)
     obtain ⟨z0, z1, z2, z3, z4, z5, z6, z7, z8, z9⟩ := cb10 (HB6.out.2.2)
     cases r2
     all_goals (go_wp2_with (go_at_call 17; fail))
     all_goals (refine (types17 _).mono ?_)
     all_goals (rintro e v1 ⟨rfl, hb⟩)
     all_goals (have HV := Aside0.mk (below_step HB6.out.1 hb))
     all_goals (clear hb y0 z0 y1 z1 y2 z2 y3 z3 y4 z4 y5 z5 y6 z6 y7 z7 y8 z8 y9 z9)
     all_goals go_wp2
     all_goals go_ret
     all_goals (exact ⟨rfl, HV.out⟩)
end Go.Proofs.YteebgnhhjlgnjaaGreatDoor.V
