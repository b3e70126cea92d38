/- impl.FieldsSame. -/
import Derived.Test.YteebgnhhjlgnjaaGreatDoorTV
import Derived.Test.YteebgnhhjlgnjaaGreatDoorSS
import Derived.Test.YteebgnhhjlgnjaaGreatDoorAF
import Derived.Test.YteebgnhhjlgnjaaGreatDoorAD
namespace Go.Proofs.YteebgnhhjlgnjaaGreatDoor.V
open Go.RowKit Go.Proofs.YteebgnhhjlgnjaaGreatDoorW.PrintWords Go.Proofs.YteebgnhhjlgnjaaGreatDoorW.PrintLast Go.Proofs.YteebgnhhjlgnjaaGreatDoorW.PrintMore
set_option maxHeartbeats 40000000
set_option maxRecDepth 100000
set_option linter.unusedVariables false
set_option linter.unusedSimpArgs false
section
variable {P : Program} {md : Region.Mode} {ops : Array Oper} {Q : Exit → Act → World → Prop} {S : World → Prop} {ds : List Nat} {n m fuel : Nat} {a : Act} {w : World} {l : Array Bool}
theorem jq {σ : Type} (fuel' M' : Nat) (ns : σ → List (Tmp × Value)) (F : σ → World → Prop) (hcont : ∀ s w', S w' → F s w' → wpAnyLast P md ops Q S ds fuel' (ba n M') (putAll a (ns s)) w')
 (h : (∀ s w', S w' → F s w' → wpAnyLast P md ops Q S ds fuel' (ba n M') (putAll a (ns s)) w') → wpAnyLast P md ops Q S ds fuel l a w) : wpAnyLast P md ops Q S ds fuel l a w := h hcont
theorem dcl {oi : Oper} {f : FuncId} {fn : Func} {os : Array Operand} {ts : Array TypeId} {args : Array Value} (hf : P.funcs[f]? = some fn) (hname : (fn.name == "runtime.NumGoroutine") = false) (hb : fn.body.isSome = true)
 (hop : oi.op = .call { callee := .value (.func f), args := os, argTypes := ts }) (hargs : os.map a.eval = args) : (execOp a.eval oi).run P w = .ok (.enter f args) w := by
 have he := enters_ hf hname hb args w
 unfold execOp
 have hf0 : a.eval (.func f) = .func (.func f) #[] #[] := rfl
 simp [hop, resolve, Deferred.ofValue, invoke, hargs, he, hf0]
end
theorem DTIn.bnd {W : World} {ok : Nat → Prop} {d : DT} {v : Value} (h : DTIn W ok d v) : DTIn W (fun k => ok k ∧ k < W.heap.size) d v :=
 DTIn.step (fun k q cells hk hl _ hc => ⟨hc, hk, hl⟩) h
theorem catch29 (p q : Addr) (w : World) :
 CallsD Tryz.prog 29 #[.pointer (some p), .pointer (some q)] .returning w fun e u' w' => e = .returned (.tuple #[]) ∧ u' = .returning ∧ w = w' := by
 refine callsD_of_wpS Tryz.func29 rfl fun c₀ cs hu => ?_
 apply wpS_seq
 apply wpS_region
 simp [wpOpsS, go_sem, recoverD, hu, Tryz.ntmps29, Exit.thenS]
 refine wpS_cond (t := false) (by simp [Act.eval, Array.replicate]) ?_
 simp only [Bool.false_eq_true, if_false]
 refine wpS_of_wp (wp_skip ?_)
 cases c₀
 simp_all [bodyPostS, results, Tryz.results29]
theorem mk26 {n : ByteArray} {o : Bool} {T : S28} {d : DT} (h : MakesT T d) (w : World) (A10 A11 A12 : Option Addr) (c10 c11 c12 : Nat) (g10 : Kd.C (Kd.int .i64) w A10 T.f8.length T.f8) (g11 : Kd.C k30 w A11 T.f9.length T.f9) :
 Calls Tryz.prog 26 #[.agg #[.string n, .bool o, .int .i64 T.f0, .int .i64 T.f1, .bool T.f2, .int .i64 T.f3, .int .i64 T.f4, .int .i64 T.f5, .string T.f6, .bool T.f7, .slice A10 T.f8.length c10, .slice A11 T.f9.length c11, .slice A12 0 c12]] w fun e w' => (∃ q a, e = .returned (.agg #[.string n, .iface q (.pointer (some a)), .bool o, .slice none 0 0, .slice none 0 0]) ∧ DTIn w' (fun k => w.heap.size ≤ k) d (.iface q (.pointer (some a)))) ∧ Below w.heap.size w w' :=
 (field26 n o T.f0 T.f1 T.f2 T.f3 T.f4 T.f5 T.f6 T.f7 A10 A11 A12 T.f8.length c10 T.f9.length c11 c12 d w (fun W hb => h W A10 A11 c10 c11 (Kd.C_below g10 hb) (Kd.C_below g11 hb))).mono fun e w' h => by
  obtain ⟨cs, rfl, ⟨x, rfl, hx⟩, hb⟩ := h
  obtain ⟨q, a, rfl⟩ := hx.form
  exact ⟨⟨q, a, rfl, hx⟩, hb⟩
def Tells2 (e : Ending) (p : Prop) : Prop := ∃ b, e = .returned (.tuple #[.bool b, .bool true]) ∧ (b = true ↔ p)
theorem tells2 {b : Bool} {p : Prop} (h : b = true ↔ p) : Tells2 (.returned (.tuple #[.bool b, .bool true])) p := ⟨b, rfl, h⟩
theorem fields13 (k : Nat) (n n' : ByteArray) (o o' : Bool) (T T' : S28) (d d' : DT) (hd : TD k T d) (hd' : TD k T' d') (w : World) (A10 A11 A12 A10' A11' A12' : Option Addr) (c10 c11 c12 c10' c11' c12' : Nat) (g10 : Kd.C (Kd.int .i64) w A10 T.f8.length T.f8) (g11 : Kd.C k30 w A11 T.f9.length T.f9) (g10' : Kd.C (Kd.int .i64) w A10' T'.f8.length T'.f8) (g11' : Kd.C k30 w A11' T'.f9.length T'.f9) :
 Calls Tryz.prog 13 #[.agg #[.string n, .bool o, .int .i64 T.f0, .int .i64 T.f1, .bool T.f2, .int .i64 T.f3, .int .i64 T.f4, .int .i64 T.f5, .string T.f6, .bool T.f7, .slice A10 T.f8.length c10, .slice A11 T.f9.length c11, .slice A12 0 c12], .agg #[.string n', .bool o', .int .i64 T'.f0, .int .i64 T'.f1, .bool T'.f2, .int .i64 T'.f3, .int .i64 T'.f4, .int .i64 T'.f5, .string T'.f6, .bool T'.f7, .slice A10' T'.f8.length c10', .slice A11' T'.f9.length c11', .slice A12' 0 c12']] w fun e w' => Tells2 e (n = n' ∧ o = o' ∧ d = d') ∧ Below w.heap.size w w' := by
 have HC := Aside0.mk (And.intro hd (And.intro hd' (And.intro g10 (And.intro g11 (And.intro g10' g11')))))
 clear hd hd' g10 g11 g10' g11'
 obtain ⟨P, hP⟩ : ∃ P : Prop, P = (n = n' ∧ o = o' ∧ d = d') := ⟨_, rfl⟩
 rw [← hP]
 have HP := Aside0.mk hP
 clear hP
 have hmf : ∀ (fn : Fn) (first cap : Array Value) (w : World), (Instr.makeFunc fn first cap).run Tryz.prog w = .ok (.func fn first cap) w := fun _ _ _ _ => rfl
 go_enter_defers Tryz.func13, Tryz.ntmps13
 go_upto_region 2 with fail
 clear hmf
 refine wp_region_noPanic ?_
 refine wp_at ?_
 intro w1 hw1
 have b1 : Below w.heap.size w w1 := by rw [hw1]; repeat (first | exact Below.refl _ _ | apply b1_ | apply b2_ | apply b3_)
 have k1 : w1.heap[w.heap.size]? = some (.cells #[.string n, .bool o, .int .i64 T.f0, .int .i64 T.f1, .bool T.f2, .int .i64 T.f3, .int .i64 T.f4, .int .i64 T.f5, .string T.f6, .bool T.f7, .slice A10 T.f8.length c10, .slice A11 T.f9.length c11, .slice A12 0 c12] 30 (0, 0)) := by rw [hw1]; exact blk_alloc_ (blk_alloc_ (blk_alloc_ (blk_new _ _)))
 have k2 : w1.heap[w.heap.size + 1]? = some (.cells #[.string n', .bool o', .int .i64 T'.f0, .int .i64 T'.f1, .bool T'.f2, .int .i64 T'.f3, .int .i64 T'.f4, .int .i64 T'.f5, .string T'.f6, .bool T'.f7, .slice A10' T'.f8.length c10', .slice A11' T'.f9.length c11', .slice A12' 0 c12'] 30 (0, 0)) := by rw [hw1]; exact blk_alloc_ (blk_alloc_ (blk_new_at (by simp [alloc_size_])))
 have r4 : w1.heap[w.heap.size + 2]? = some (.cells #[.bool false] 4 (0, 0)) := by rw [hw1]; exact blk_alloc_ (blk_new_at (by simp [alloc_size_]))
 have r5 : w1.heap[w.heap.size + 3]? = some (.cells #[.bool false] 4 (0, 0)) := by rw [hw1]; exact blk_new_at (by simp [alloc_size_])
 clear hw1
 have HB := Aside0.mk (And.intro b1 (And.intro r4 r5))
 obtain ⟨y0, y1, y2, y3, y4, y5, y6, y7, y8, y9, y10, y11, y12⟩ := cb13 k1
 obtain ⟨z0, z1, z2, z3, z4, z5, z6, z7, z8, z9, z10, z11, z12⟩ := cb13 k2
 refine sc 8 (fun w' => Below w1.heap.size w1 w' ∧ w'.cell? ⟨w.heap.size, 0, none⟩ = some (.string n) ∧ w'.cell? ⟨w.heap.size, 1, none⟩ = some (.bool o) ∧ w'.cell? ⟨w.heap.size, 2, none⟩ = some (.int .i64 T.f0) ∧ w'.cell? ⟨w.heap.size, 3, none⟩ = some (.int .i64 T.f1) ∧ w'.cell? ⟨w.heap.size, 4, none⟩ = some (.bool T.f2) ∧ w'.cell? ⟨w.heap.size, 5, none⟩ = some (.int .i64 T.f3) ∧ w'.cell? ⟨w.heap.size, 6, none⟩ = some (.int .i64 T.f4) ∧ w'.cell? ⟨w.heap.size, 7, none⟩ = some (.int .i64 T.f5) ∧ w'.cell? ⟨w.heap.size, 8, none⟩ = some (.string T.f6) ∧ w'.cell? ⟨w.heap.size, 9, none⟩ = some (.bool T.f7) ∧ w'.cell? ⟨w.heap.size, 10, none⟩ = some (.slice A10 T.f8.length c10) ∧ w'.cell? ⟨w.heap.size, 11, none⟩ = some (.slice A11 T.f9.length c11) ∧ w'.cell? ⟨w.heap.size, 12, none⟩ = some (.slice A12 0 c12) ∧ w'.cell? ⟨w.heap.size + 1, 0, none⟩ = some (.string n') ∧ w'.cell? ⟨w.heap.size + 1, 1, none⟩ = some (.bool o') ∧ w'.cell? ⟨w.heap.size + 1, 2, none⟩ = some (.int .i64 T'.f0) ∧ w'.cell? ⟨w.heap.size + 1, 3, none⟩ = some (.int .i64 T'.f1) ∧ w'.cell? ⟨w.heap.size + 1, 4, none⟩ = some (.bool T'.f2) ∧ w'.cell? ⟨w.heap.size + 1, 5, none⟩ = some (.int .i64 T'.f3) ∧ w'.cell? ⟨w.heap.size + 1, 6, none⟩ = some (.int .i64 T'.f4) ∧ w'.cell? ⟨w.heap.size + 1, 7, none⟩ = some (.int .i64 T'.f5) ∧ w'.cell? ⟨w.heap.size + 1, 8, none⟩ = some (.string T'.f6) ∧ w'.cell? ⟨w.heap.size + 1, 9, none⟩ = some (.bool T'.f7) ∧ w'.cell? ⟨w.heap.size + 1, 10, none⟩ = some (.slice A10' T'.f8.length c10') ∧ w'.cell? ⟨w.heap.size + 1, 11, none⟩ = some (.slice A11' T'.f9.length c11') ∧ w'.cell? ⟨w.heap.size + 1, 12, none⟩ = some (.slice A12' 0 c12')) (fun hk0 w2 hs2 hb => ?_)
 have HW := Aside0.mk (And.intro hb (And.intro hs2.1 hs2))
 have hsz : w.heap.size + 3 < w2.heap.size := by have h1 := blk_lt r5; have h2 := hb.size; omega
 clear b1 k1 k2 r4 r5 hb y0 z0 y1 z1 y2 z2 y3 z3 y4 z4 y5 z5 y6 z6 y7 z7 y8 z8 y9 z9 y10 z10 y11 z11 y12 z12
 refine ta 0 9 1 ?_
 refine ta 2 11 5 ?_
 refine jq (n := 8) (σ := TypeId × Addr × TypeId × Addr × Nat × Nat) 2 63 (fun s => [(10, .agg #[.string n, .iface s.1 (.pointer (some s.2.1)), .bool o, .slice none 0 0, .slice none 0 0]), (12, .agg #[.string n', .iface s.2.2.1 (.pointer (some s.2.2.2.1)), .bool o', .slice none 0 0, .slice none 0 0]), (6, .pointer (some ⟨s.2.2.2.2.1, 0, none⟩)), (7, .pointer (some ⟨s.2.2.2.2.2, 0, none⟩))]) (fun s w' => Below w2.heap.size w2 w' ∧ w'.heap[s.2.2.2.2.1]? = some (.cells #[.string ⟨#[]⟩, .nilIface, .bool false, .slice none 0 0, .slice none 0 0] 61 (0, 0)) ∧ w'.heap[s.2.2.2.2.2]? = some (.cells #[.string ⟨#[]⟩, .nilIface, .bool false, .slice none 0 0, .slice none 0 0] 61 (0, 0)) ∧ ∃ l1 h1 l2 h2 : Nat, DTIn w' (fun k => l1 ≤ k ∧ k < h1) d (.iface s.1 (.pointer (some s.2.1))) ∧ DTIn w' (fun k => l2 ≤ k ∧ k < h2) d' (.iface s.2.2.1 (.pointer (some s.2.2.2.1))) ∧ (s.2.2.2.2.1 ≠ s.2.2.2.2.2 ∧ w2.heap.size ≤ s.2.2.2.2.1 ∧ w2.heap.size ≤ s.2.2.2.2.2 ∧ h1 ≤ l2 ∧ (s.2.2.2.2.1 < l1 ∨ h1 ≤ s.2.2.2.2.1) ∧ (s.2.2.2.2.2 < l1 ∨ h1 ≤ s.2.2.2.2.2) ∧ (s.2.2.2.2.1 < l2 ∨ h2 ≤ s.2.2.2.2.1) ∧ (s.2.2.2.2.2 < l2 ∨ h2 ≤ s.2.2.2.2.2))) ?_ (fun hj => ?_)
 ·rintro ⟨q, a, q', a', g1, g2⟩ w4 _ ⟨hb4, hg1, hg2, l1, h1, l2, h2, hx, hx', hne⟩
  dsimp only at hg1 hg2 hx hx' hne
  refine norm_ (a' := ?_) ?_ ?_
  rotate_left
  ·simp only [putAll, Act.put, s1_, s2_, s3_, i64_w, i32_w]
   rfl
  have hb5 := below_setRow hb4 hne.2.1 #[.string n, .iface q (.pointer (some a)), .bool o, .slice none 0 0, .slice none 0 0]
  have hg2' := (setRow_other w4 g1 g2 #[.string n, .iface q (.pointer (some a)), .bool o, .slice none 0 0, .slice none 0 0] (by omega)).trans hg2
  refine rdy [6] (sb 6 127 g1 #[.string n, .iface q (.pointer (some a)), .bool o, .slice none 0 0, .slice none 0 0] hg1 (by kernel_rfl) rfl (one61 _ _ _ _) (hk0.out _ _ hb5 HW.out.2.2) ?_ rn)
  have hb6 := below_setRow hb5 hne.2.2.1 #[.string n', .iface q' (.pointer (some a')), .bool o', .slice none 0 0, .slice none 0 0]
  refine rdy [7] (sb 7 255 g2 #[.string n', .iface q' (.pointer (some a')), .bool o', .slice none 0 0, .slice none 0 0] hg2' (by kernel_rfl) rfl (one61 _ _ _ _) (hk0.out _ _ hb6 HW.out.2.2) ?_ rn)
  refine done_ (by kernel_rfl) ?_
  refine NoPanic.normal ?_
  have e2 := setRow_heap _ _ _ #[.string n', .iface q' (.pointer (some a')), .bool o', .slice none 0 0, .slice none 0 0] _ _ hg2'
  have e1 := (setRow_other (w4.setRow g1 #[.string n, .iface q (.pointer (some a)), .bool o, .slice none 0 0, .slice none 0 0]) g2 g1 #[.string n', .iface q' (.pointer (some a')), .bool o', .slice none 0 0, .slice none 0 0] (by omega)).trans (setRow_heap _ _ _ #[.string n, .iface q (.pointer (some a)), .bool o, .slice none 0 0, .slice none 0 0] _ _ hg1)
  have st : ∀ k, k ≠ g1 → k ≠ g2 → ((w4.setRow g1 #[.string n, .iface q (.pointer (some a)), .bool o, .slice none 0 0, .slice none 0 0]).setRow g2 #[.string n', .iface q' (.pointer (some a')), .bool o', .slice none 0 0, .slice none 0 0]).heap[k]? = w4.heap[k]? := fun k h1 h2 => (setRow_other _ _ _ _ h2).trans (setRow_other _ _ _ _ h1)
  obtain ⟨w6, hw6⟩ : ∃ w6, w6 = (w4.setRow g1 #[.string n, .iface q (.pointer (some a)), .bool o, .slice none 0 0, .slice none 0 0]).setRow g2 #[.string n', .iface q' (.pointer (some a')), .bool o', .slice none 0 0, .slice none 0 0] := ⟨_, rfl⟩
  rw [← hw6] at e1 e2 st hb6 ⊢
  clear hw6
  have X1 : DTIn w6 (fun k => l1 ≤ k ∧ k < h1) d (.iface q (.pointer (some a))) := DTIn.step (W := w4) (fun k _ _ hk _ _ hc => ⟨(st k (by omega) (by omega)).trans hc, hk⟩) hx
  have X2 : DTIn w6 (fun k => l2 ≤ k ∧ k < h2) d' (.iface q' (.pointer (some a'))) := DTIn.step (W := w4) (fun k _ _ hk _ _ hc => ⟨(st k (by omega) (by omega)).trans hc, hk⟩) hx'
  have B6 := below_step (below_step HB.out.1 HW.out.1) hb6
  have R4 := blk_below (blk_below HB.out.2.1 HW.out.1) hb6
  have R5 := blk_below (blk_below HB.out.2.2 HW.out.1) hb6
  have HX := Aside0.mk (And.intro X1 (And.intro X2 (And.intro (show ∀ k, (l1 ≤ k ∧ k < h1) → (l2 ≤ k ∧ k < h2) → False from fun k h1 h2 => by omega) (And.intro B6 (And.intro R4 R5)))))
  obtain ⟨c0, c1, c2, c3, c4⟩ := cb5 e1
  obtain ⟨d0, d1, d2, d3, d4⟩ := cb5 e2
  clear X1 X2 B6 R4 R5 e1 e2 st hb4 hb5 hb6 hg1 hg2 hg2' hx hx' hne
  go_wp2_with (go_at_call 30; fail)
  refine (fe30 k (teC k) n n' o o' T T' d d' _ _ w6 _ _ HC.out.1 HC.out.2.1 HX.out.1 HX.out.2.1 HX.out.2.2.1).mono ?_
  rintro e w8 ⟨⟨r, rfl, hr⟩, hb8⟩
  have HRR := Aside0.mk hr
  have R4 := blk_below HX.out.2.2.2.2.1 hb8
  have R5 := blk_below HX.out.2.2.2.2.2 hb8
  have HZ := Aside0.mk (And.intro R4 (And.intro R5 (below_step HX.out.2.2.2.1 hb8)))
  have m4 : w8.cell? ⟨w.heap.size + 2, 0, none⟩ = some (.bool false) := (blk_cell R4 0).trans rfl
  have m5 : w8.cell? ⟨w.heap.size + 3, 0, none⟩ = some (.bool false) := (blk_cell R5 0).trans rfl
  have f4 := blk_frozen R4 0
  have f5 := blk_frozen R5 0
  clear R4 R5 hb8 hr c0 c1 c2 c3 c4 d0 d1 d2 d3 d4
  go_wp2
  refine leaves_cons (f := 29) (args := #[.pointer (some ⟨w.heap.size + 2, 0, none⟩), .pointer (some ⟨w.heap.size + 3, 0, none⟩)]) (by simp) (by simp [go_sem]) ?_
  refine (catch29 _ _ _).mono ?_
  rintro e u' w'' ⟨rfl, rfl, rfl⟩
  obtain ⟨R4, R5, bF⟩ := HZ.out
  have n4 := blk_other_ (i := 0) (u := .bool true) (show w.heap.size + 2 ≠ w.heap.size + 3 by omega) (blk_put_at (i := 0) (u := .bool r) R4 rfl)
  have n5 := blk_put_at (i := 0) (u := .bool true) (blk_other_ (i := 0) (u := .bool r) (show w.heap.size + 3 ≠ w.heap.size + 2 by omega) R5) rfl
  have e4 := (blk_cell n4 0).trans (show _ = some (Value.bool r) from rfl)
  have e5 := (blk_cell n5 0).trans (show _ = some (Value.bool true) from rfl)
  simp [Leaves, settle, results, Tryz.results13, go_sem, e4, e5]
  exact ⟨tells2 (HRR.out.trans (by rw [HP.out])), (bF.setCell (by dsimp only; omega) _).setCell (by dsimp only; omega) _⟩
 have hB0 := Below.refl w2.heap.size w2
 refine rdy [1, 4, 5] (rc 1 10 7 hk0 hs2 (mk26 (makesT k T d HC.out.1) w2 A10 A11 A12 c10 c11 c12 (Kd.C_below HC.out.2.2.1 (below_step HB.out.1 hs2.1)) (Kd.C_below HC.out.2.2.2.1 (below_step HB.out.1 hs2.1))) (fun e v1 hR hs_ hb => ?_) (rb 4 6 21 (.cells #[.string ⟨#[]⟩, .nilIface, .bool false, .slice none 0 0, .slice none 0 0] 61 (0, 0)) hk0 hs2 (fun v1 hz hg hs_ hb => ?_) (rb 5 7 37 (.cells #[.string ⟨#[]⟩, .nilIface, .bool false, .slice none 0 0, .slice none 0 0] 61 (0, 0)) hk0 hs2 (fun v1 hz hg hs_ hb => ?_) rn)) (hrun := dcl Tryz.func26 (by kernel_rfl) rfl rfl (by (try simp only [List.map_toArray, List.map_cons, List.map_nil]); first | done | rfl)))
 ·obtain ⟨q1, a1, rfl, hx⟩ := hR
  refine ⟨_, rfl, no 10 ?_⟩
  have hB1 := below_step hB0 hb
  have X1_1 := hx.bnd
  have hz1 := hb.size
  have hs1 := hs_
  clear hx hs_ hb
  refine rdy [3, 4, 5] (rc 3 12 15 hk0 hs1 (mk26 (makesT k T' d' HC.out.2.1) v1 A10' A11' A12' c10' c11' c12' (Kd.C_below HC.out.2.2.2.2.1 (below_step HB.out.1 hs1.1)) (Kd.C_below HC.out.2.2.2.2.2 (below_step HB.out.1 hs1.1))) (fun e v2 hR hs_ hb => ?_) (rb 4 6 23 (.cells #[.string ⟨#[]⟩, .nilIface, .bool false, .slice none 0 0, .slice none 0 0] 61 (0, 0)) hk0 hs1 (fun v2 hz hg hs_ hb => ?_) (rb 5 7 39 (.cells #[.string ⟨#[]⟩, .nilIface, .bool false, .slice none 0 0, .slice none 0 0] 61 (0, 0)) hk0 hs1 (fun v2 hz hg hs_ hb => ?_) rn)) (hrun := dcl Tryz.func26 (by kernel_rfl) rfl rfl (by (try simp only [List.map_toArray, List.map_cons, List.map_nil]); first | done | rfl)))
  ·obtain ⟨q3, a3, rfl, hx⟩ := hR
   refine ⟨_, rfl, no 12 ?_⟩
   have hB2 := below_step hB1 hb
   have X1_2 := X1_1.below hb
   have X3_2 := hx.bnd
   have hz2 := hb.size
   have hs2 := hs_
   clear hx hs_ hb
   refine rdy [4, 5] (rb 4 6 31 (.cells #[.string ⟨#[]⟩, .nilIface, .bool false, .slice none 0 0, .slice none 0 0] 61 (0, 0)) hk0 hs2 (fun v3 hz hg hs_ hb => ?_) (rb 5 7 47 (.cells #[.string ⟨#[]⟩, .nilIface, .bool false, .slice none 0 0, .slice none 0 0] 61 (0, 0)) hk0 hs2 (fun v3 hz hg hs_ hb => ?_) rn))
   ·refine no 6 ?_
    have hB3 := below_step hB2 hb
    have X1_3 := X1_2.below hb
    have X3_3 := X3_2.below hb
    have g4_3 := hg
    have hz3 : v3.heap.size ≤ v2.heap.size + 1 ∧ v2.heap.size + 1 ≤ v3.heap.size := by omega
    have hs3 := hs_
    clear hg hz hs_ hb
    refine rdy [5] (rb 5 7 63 (.cells #[.string ⟨#[]⟩, .nilIface, .bool false, .slice none 0 0, .slice none 0 0] 61 (0, 0)) hk0 hs3 (fun v4 hz hg hs_ hb => ?_) rn)
    ·refine no 7 ?_
     have hB4 := below_step hB3 hb
     have g4_4 := blk_below g4_3 hb
     have X1_4 := X1_3.below hb
     have X3_4 := X3_3.below hb
     have g5_4 := hg
     have hz4 : v4.heap.size ≤ v3.heap.size + 1 ∧ v3.heap.size + 1 ≤ v4.heap.size := by omega
     have hs4 := hs_
     clear hg hz hs_ hb
     refine norm_ ?_ (hj (q1, a1, q3, a3, v2.heap.size, v3.heap.size) v4 hs4 ⟨hB4, g4_4, g5_4, _, _, _, _, X1_4, X3_4, by dsimp only; omega⟩)
     simp only [putAll, Act.put, s1_, s2_, s3_, i64_w, i32_w] <;> rfl
   ·refine no 7 ?_
    have hB3 := below_step hB2 hb
    have X1_3 := X1_2.below hb
    have X3_3 := X3_2.below hb
    have g5_3 := hg
    have hz3 : v3.heap.size ≤ v2.heap.size + 1 ∧ v2.heap.size + 1 ≤ v3.heap.size := by omega
    have hs3 := hs_
    clear hg hz hs_ hb
    refine rdy [4] (rb 4 6 63 (.cells #[.string ⟨#[]⟩, .nilIface, .bool false, .slice none 0 0, .slice none 0 0] 61 (0, 0)) hk0 hs3 (fun v4 hz hg hs_ hb => ?_) rn)
    ·refine no 6 ?_
     have hB4 := below_step hB3 hb
     have g5_4 := blk_below g5_3 hb
     have X1_4 := X1_3.below hb
     have X3_4 := X3_3.below hb
     have g4_4 := hg
     have hz4 : v4.heap.size ≤ v3.heap.size + 1 ∧ v3.heap.size + 1 ≤ v4.heap.size := by omega
     have hs4 := hs_
     clear hg hz hs_ hb
     refine norm_ ?_ (hj (q1, a1, q3, a3, v3.heap.size, v2.heap.size) v4 hs4 ⟨hB4, g4_4, g5_4, _, _, _, _, X1_4, X3_4, by dsimp only; omega⟩)
     simp only [putAll, Act.put, s1_, s2_, s3_, i64_w, i32_w] <;> rfl
  ·refine no 6 ?_
   have hB2 := below_step hB1 hb
   have X1_2 := X1_1.below hb
   have g4_2 := hg
   have hz2 : v2.heap.size ≤ v1.heap.size + 1 ∧ v1.heap.size + 1 ≤ v2.heap.size := by omega
   have hs2 := hs_
   clear hg hz hs_ hb
   refine rdy [3, 5] (rc 3 12 31 hk0 hs2 (mk26 (makesT k T' d' HC.out.2.1) v2 A10' A11' A12' c10' c11' c12' (Kd.C_below HC.out.2.2.2.2.1 (below_step HB.out.1 hs2.1)) (Kd.C_below HC.out.2.2.2.2.2 (below_step HB.out.1 hs2.1))) (fun e v3 hR hs_ hb => ?_) (rb 5 7 55 (.cells #[.string ⟨#[]⟩, .nilIface, .bool false, .slice none 0 0, .slice none 0 0] 61 (0, 0)) hk0 hs2 (fun v3 hz hg hs_ hb => ?_) rn) (hrun := dcl Tryz.func26 (by kernel_rfl) rfl rfl (by (try simp only [List.map_toArray, List.map_cons, List.map_nil]); first | done | rfl)))
   ·obtain ⟨q3, a3, rfl, hx⟩ := hR
    refine ⟨_, rfl, no 12 ?_⟩
    have hB3 := below_step hB2 hb
    have g4_3 := blk_below g4_2 hb
    have X1_3 := X1_2.below hb
    have X3_3 := hx.bnd
    have hz3 := hb.size
    have hs3 := hs_
    clear hx hs_ hb
    refine rdy [5] (rb 5 7 63 (.cells #[.string ⟨#[]⟩, .nilIface, .bool false, .slice none 0 0, .slice none 0 0] 61 (0, 0)) hk0 hs3 (fun v4 hz hg hs_ hb => ?_) rn)
    ·refine no 7 ?_
     have hB4 := below_step hB3 hb
     have g4_4 := blk_below g4_3 hb
     have X1_4 := X1_3.below hb
     have X3_4 := X3_3.below hb
     have g5_4 := hg
     have hz4 : v4.heap.size ≤ v3.heap.size + 1 ∧ v3.heap.size + 1 ≤ v4.heap.size := by omega
     have hs4 := hs_
     clear hg hz hs_ hb
     refine norm_ ?_ (hj (q1, a1, q3, a3, v1.heap.size, v3.heap.size) v4 hs4 ⟨hB4, g4_4, g5_4, _, _, _, _, X1_4, X3_4, by dsimp only; omega⟩)
     simp only [putAll, Act.put, s1_, s2_, s3_, i64_w, i32_w] <;> rfl
   ·refine no 7 ?_
    have hB3 := below_step hB2 hb
    have g4_3 := blk_below g4_2 hb
    have X1_3 := X1_2.below hb
    have g5_3 := hg
    have hz3 : v3.heap.size ≤ v2.heap.size + 1 ∧ v2.heap.size + 1 ≤ v3.heap.size := by omega
    have hs3 := hs_
    clear hg hz hs_ hb
    refine rdy [3] (rc 3 12 63 hk0 hs3 (mk26 (makesT k T' d' HC.out.2.1) v3 A10' A11' A12' c10' c11' c12' (Kd.C_below HC.out.2.2.2.2.1 (below_step HB.out.1 hs3.1)) (Kd.C_below HC.out.2.2.2.2.2 (below_step HB.out.1 hs3.1))) (fun e v4 hR hs_ hb => ?_) rn (hrun := dcl Tryz.func26 (by kernel_rfl) rfl rfl (by (try simp only [List.map_toArray, List.map_cons, List.map_nil]); first | done | rfl)))
    ·obtain ⟨q3, a3, rfl, hx⟩ := hR
     refine ⟨_, rfl, no 12 ?_⟩
     have hB4 := below_step hB3 hb
     have g4_4 := blk_below g4_3 hb
     have g5_4 := blk_below g5_3 hb
     have X1_4 := X1_3.below hb
     have X3_4 := hx.bnd
     have hz4 := hb.size
     have hs4 := hs_
     clear hx hs_ hb
     refine norm_ ?_ (hj (q1, a1, q3, a3, v1.heap.size, v2.heap.size) v4 hs4 ⟨hB4, g4_4, g5_4, _, _, _, _, X1_4, X3_4, by dsimp only; omega⟩)
     simp only [putAll, Act.put, s1_, s2_, s3_, i64_w, i32_w] <;> rfl
  ·refine no 7 ?_
   have hB2 := below_step hB1 hb
   have X1_2 := X1_1.below hb
   have g5_2 := hg
   have hz2 : v2.heap.size ≤ v1.heap.size + 1 ∧ v1.heap.size + 1 ≤ v2.heap.size := by omega
   have hs2 := hs_
   clear hg hz hs_ hb
   refine rdy [3, 4] (rc 3 12 47 hk0 hs2 (mk26 (makesT k T' d' HC.out.2.1) v2 A10' A11' A12' c10' c11' c12' (Kd.C_below HC.out.2.2.2.2.1 (below_step HB.out.1 hs2.1)) (Kd.C_below HC.out.2.2.2.2.2 (below_step HB.out.1 hs2.1))) (fun e v3 hR hs_ hb => ?_) (rb 4 6 55 (.cells #[.string ⟨#[]⟩, .nilIface, .bool false, .slice none 0 0, .slice none 0 0] 61 (0, 0)) hk0 hs2 (fun v3 hz hg hs_ hb => ?_) rn) (hrun := dcl Tryz.func26 (by kernel_rfl) rfl rfl (by (try simp only [List.map_toArray, List.map_cons, List.map_nil]); first | done | rfl)))
   ·obtain ⟨q3, a3, rfl, hx⟩ := hR
    refine ⟨_, rfl, no 12 ?_⟩
    have hB3 := below_step hB2 hb
    have g5_3 := blk_below g5_2 hb
    have X1_3 := X1_2.below hb
    have X3_3 := hx.bnd
    have hz3 := hb.size
    have hs3 := hs_
    clear hx hs_ hb
    refine rdy [4] (rb 4 6 63 (.cells #[.string ⟨#[]⟩, .nilIface, .bool false, .slice none 0 0, .slice none 0 0] 61 (0, 0)) hk0 hs3 (fun v4 hz hg hs_ hb => ?_) rn)
    ·refine no 6 ?_
     have hB4 := below_step hB3 hb
     have g5_4 := blk_below g5_3 hb
     have X1_4 := X1_3.below hb
     have X3_4 := X3_3.below hb
     have g4_4 := hg
     have hz4 : v4.heap.size ≤ v3.heap.size + 1 ∧ v3.heap.size + 1 ≤ v4.heap.size := by omega
     have hs4 := hs_
     clear hg hz hs_ hb
     refine norm_ ?_ (hj (q1, a1, q3, a3, v3.heap.size, v1.heap.size) v4 hs4 ⟨hB4, g4_4, g5_4, _, _, _, _, X1_4, X3_4, by dsimp only; omega⟩)
     simp only [putAll, Act.put, s1_, s2_, s3_, i64_w, i32_w] <;> rfl
   ·refine no 6 ?_
    have hB3 := below_step hB2 hb
    have g5_3 := blk_below g5_2 hb
    have X1_3 := X1_2.below hb
    have g4_3 := hg
    have hz3 : v3.heap.size ≤ v2.heap.size + 1 ∧ v2.heap.size + 1 ≤ v3.heap.size := by omega
    have hs3 := hs_
    clear hg hz hs_ hb
    refine rdy [3] (rc 3 12 63 hk0 hs3 (mk26 (makesT k T' d' HC.out.2.1) v3 A10' A11' A12' c10' c11' c12' (Kd.C_below HC.out.2.2.2.2.1 (below_step HB.out.1 hs3.1)) (Kd.C_below HC.out.2.2.2.2.2 (below_step HB.out.1 hs3.1))) (fun e v4 hR hs_ hb => ?_) rn (hrun := dcl Tryz.func26 (by kernel_rfl) rfl rfl (by (try simp only [List.map_toArray, List.map_cons, List.map_nil]); first | done | rfl)))
    ·obtain ⟨q3, a3, rfl, hx⟩ := hR
     refine ⟨_, rfl, no 12 ?_⟩
     have hB4 := below_step hB3 hb
     have g4_4 := blk_below g4_3 hb
     have g5_4 := blk_below g5_3 hb
     have X1_4 := X1_3.below hb
     have X3_4 := hx.bnd
     have hz4 := hb.size
     have hs4 := hs_
     clear hx hs_ hb
     refine norm_ ?_ (hj (q1, a1, q3, a3, v2.heap.size, v1.heap.size) v4 hs4 ⟨hB4, g4_4, g5_4, _, _, _, _, X1_4, X3_4, by dsimp only; omega⟩)
     simp only [putAll, Act.put, s1_, s2_, s3_, i64_w, i32_w] <;> rfl
 ·refine no 6 ?_
  have hB1 := below_step hB0 hb
  have g4_1 := hg
  have hz1 : v1.heap.size ≤ w2.heap.size + 1 ∧ w2.heap.size + 1 ≤ v1.heap.size := by omega
  have hs1 := hs_
  clear hg hz hs_ hb
  refine rdy [1, 5] (rc 1 10 23 hk0 hs1 (mk26 (makesT k T d HC.out.1) v1 A10 A11 A12 c10 c11 c12 (Kd.C_below HC.out.2.2.1 (below_step HB.out.1 hs1.1)) (Kd.C_below HC.out.2.2.2.1 (below_step HB.out.1 hs1.1))) (fun e v2 hR hs_ hb => ?_) (rb 5 7 53 (.cells #[.string ⟨#[]⟩, .nilIface, .bool false, .slice none 0 0, .slice none 0 0] 61 (0, 0)) hk0 hs1 (fun v2 hz hg hs_ hb => ?_) rn) (hrun := dcl Tryz.func26 (by kernel_rfl) rfl rfl (by (try simp only [List.map_toArray, List.map_cons, List.map_nil]); first | done | rfl)))
  ·obtain ⟨q1, a1, rfl, hx⟩ := hR
   refine ⟨_, rfl, no 10 ?_⟩
   have hB2 := below_step hB1 hb
   have g4_2 := blk_below g4_1 hb
   have X1_2 := hx.bnd
   have hz2 := hb.size
   have hs2 := hs_
   clear hx hs_ hb
   refine rdy [3, 5] (rc 3 12 31 hk0 hs2 (mk26 (makesT k T' d' HC.out.2.1) v2 A10' A11' A12' c10' c11' c12' (Kd.C_below HC.out.2.2.2.2.1 (below_step HB.out.1 hs2.1)) (Kd.C_below HC.out.2.2.2.2.2 (below_step HB.out.1 hs2.1))) (fun e v3 hR hs_ hb => ?_) (rb 5 7 55 (.cells #[.string ⟨#[]⟩, .nilIface, .bool false, .slice none 0 0, .slice none 0 0] 61 (0, 0)) hk0 hs2 (fun v3 hz hg hs_ hb => ?_) rn) (hrun := dcl Tryz.func26 (by kernel_rfl) rfl rfl (by (try simp only [List.map_toArray, List.map_cons, List.map_nil]); first | done | rfl)))
   ·obtain ⟨q3, a3, rfl, hx⟩ := hR
    refine ⟨_, rfl, no 12 ?_⟩
    have hB3 := below_step hB2 hb
    have g4_3 := blk_below g4_2 hb
    have X1_3 := X1_2.below hb
    have X3_3 := hx.bnd
    have hz3 := hb.size
    have hs3 := hs_
    clear hx hs_ hb
    refine rdy [5] (rb 5 7 63 (.cells #[.string ⟨#[]⟩, .nilIface, .bool false, .slice none 0 0, .slice none 0 0] 61 (0, 0)) hk0 hs3 (fun v4 hz hg hs_ hb => ?_) rn)
    ·refine no 7 ?_
     have hB4 := below_step hB3 hb
     have g4_4 := blk_below g4_3 hb
     have X1_4 := X1_3.below hb
     have X3_4 := X3_3.below hb
     have g5_4 := hg
     have hz4 : v4.heap.size ≤ v3.heap.size + 1 ∧ v3.heap.size + 1 ≤ v4.heap.size := by omega
     have hs4 := hs_
     clear hg hz hs_ hb
     refine norm_ ?_ (hj (q1, a1, q3, a3, w2.heap.size, v3.heap.size) v4 hs4 ⟨hB4, g4_4, g5_4, _, _, _, _, X1_4, X3_4, by dsimp only; omega⟩)
     simp only [putAll, Act.put, s1_, s2_, s3_, i64_w, i32_w] <;> rfl
   ·refine no 7 ?_
    have hB3 := below_step hB2 hb
    have g4_3 := blk_below g4_2 hb
    have X1_3 := X1_2.below hb
    have g5_3 := hg
    have hz3 : v3.heap.size ≤ v2.heap.size + 1 ∧ v2.heap.size + 1 ≤ v3.heap.size := by omega
    have hs3 := hs_
    clear hg hz hs_ hb
    refine rdy [3] (rc 3 12 63 hk0 hs3 (mk26 (makesT k T' d' HC.out.2.1) v3 A10' A11' A12' c10' c11' c12' (Kd.C_below HC.out.2.2.2.2.1 (below_step HB.out.1 hs3.1)) (Kd.C_below HC.out.2.2.2.2.2 (below_step HB.out.1 hs3.1))) (fun e v4 hR hs_ hb => ?_) rn (hrun := dcl Tryz.func26 (by kernel_rfl) rfl rfl (by (try simp only [List.map_toArray, List.map_cons, List.map_nil]); first | done | rfl)))
    ·obtain ⟨q3, a3, rfl, hx⟩ := hR
     refine ⟨_, rfl, no 12 ?_⟩
     have hB4 := below_step hB3 hb
     have g4_4 := blk_below g4_3 hb
     have g5_4 := blk_below g5_3 hb
     have X1_4 := X1_3.below hb
     have X3_4 := hx.bnd
     have hz4 := hb.size
     have hs4 := hs_
     clear hx hs_ hb
     refine norm_ ?_ (hj (q1, a1, q3, a3, w2.heap.size, v2.heap.size) v4 hs4 ⟨hB4, g4_4, g5_4, _, _, _, _, X1_4, X3_4, by dsimp only; omega⟩)
     simp only [putAll, Act.put, s1_, s2_, s3_, i64_w, i32_w] <;> rfl
  ·refine no 7 ?_
   have hB2 := below_step hB1 hb
   have g4_2 := blk_below g4_1 hb
   have g5_2 := hg
   have hz2 : v2.heap.size ≤ v1.heap.size + 1 ∧ v1.heap.size + 1 ≤ v2.heap.size := by omega
   have hs2 := hs_
   clear hg hz hs_ hb
   refine rdy [1] (rc 1 10 55 hk0 hs2 (mk26 (makesT k T d HC.out.1) v2 A10 A11 A12 c10 c11 c12 (Kd.C_below HC.out.2.2.1 (below_step HB.out.1 hs2.1)) (Kd.C_below HC.out.2.2.2.1 (below_step HB.out.1 hs2.1))) (fun e v3 hR hs_ hb => ?_) rn (hrun := dcl Tryz.func26 (by kernel_rfl) rfl rfl (by (try simp only [List.map_toArray, List.map_cons, List.map_nil]); first | done | rfl)))
   ·obtain ⟨q1, a1, rfl, hx⟩ := hR
    refine ⟨_, rfl, no 10 ?_⟩
    have hB3 := below_step hB2 hb
    have g4_3 := blk_below g4_2 hb
    have g5_3 := blk_below g5_2 hb
    have X1_3 := hx.bnd
    have hz3 := hb.size
    have hs3 := hs_
    clear hx hs_ hb
    refine rdy [3] (rc 3 12 63 hk0 hs3 (mk26 (makesT k T' d' HC.out.2.1) v3 A10' A11' A12' c10' c11' c12' (Kd.C_below HC.out.2.2.2.2.1 (below_step HB.out.1 hs3.1)) (Kd.C_below HC.out.2.2.2.2.2 (below_step HB.out.1 hs3.1))) (fun e v4 hR hs_ hb => ?_) rn (hrun := dcl Tryz.func26 (by kernel_rfl) rfl rfl (by (try simp only [List.map_toArray, List.map_cons, List.map_nil]); first | done | rfl)))
    ·obtain ⟨q3, a3, rfl, hx⟩ := hR
     refine ⟨_, rfl, no 12 ?_⟩
     have hB4 := below_step hB3 hb
     have g4_4 := blk_below g4_3 hb
     have g5_4 := blk_below g5_3 hb
     have X1_4 := X1_3.below hb
     have X3_4 := hx.bnd
     have hz4 := hb.size
     have hs4 := hs_
     clear hx hs_ hb
     refine norm_ ?_ (hj (q1, a1, q3, a3, w2.heap.size, v1.heap.size) v4 hs4 ⟨hB4, g4_4, g5_4, _, _, _, _, X1_4, X3_4, by dsimp only; omega⟩)
     simp only [putAll, Act.put, s1_, s2_, s3_, i64_w, i32_w] <;> rfl
 ·refine no 7 ?_
  have hB1 := below_step hB0 hb
  have g5_1 := hg
  have hz1 : v1.heap.size ≤ w2.heap.size + 1 ∧ w2.heap.size + 1 ≤ v1.heap.size := by omega
  have hs1 := hs_
  clear hg hz hs_ hb
  refine rdy [1, 4] (rc 1 10 39 hk0 hs1 (mk26 (makesT k T d HC.out.1) v1 A10 A11 A12 c10 c11 c12 (Kd.C_below HC.out.2.2.1 (below_step HB.out.1 hs1.1)) (Kd.C_below HC.out.2.2.2.1 (below_step HB.out.1 hs1.1))) (fun e v2 hR hs_ hb => ?_) (rb 4 6 53 (.cells #[.string ⟨#[]⟩, .nilIface, .bool false, .slice none 0 0, .slice none 0 0] 61 (0, 0)) hk0 hs1 (fun v2 hz hg hs_ hb => ?_) rn) (hrun := dcl Tryz.func26 (by kernel_rfl) rfl rfl (by (try simp only [List.map_toArray, List.map_cons, List.map_nil]); first | done | rfl)))
  ·obtain ⟨q1, a1, rfl, hx⟩ := hR
   refine ⟨_, rfl, no 10 ?_⟩
   have hB2 := below_step hB1 hb
   have g5_2 := blk_below g5_1 hb
   have X1_2 := hx.bnd
   have hz2 := hb.size
   have hs2 := hs_
   clear hx hs_ hb
   refine rdy [3, 4] (rc 3 12 47 hk0 hs2 (mk26 (makesT k T' d' HC.out.2.1) v2 A10' A11' A12' c10' c11' c12' (Kd.C_below HC.out.2.2.2.2.1 (below_step HB.out.1 hs2.1)) (Kd.C_below HC.out.2.2.2.2.2 (below_step HB.out.1 hs2.1))) (fun e v3 hR hs_ hb => ?_) (rb 4 6 55 (.cells #[.string ⟨#[]⟩, .nilIface, .bool false, .slice none 0 0, .slice none 0 0] 61 (0, 0)) hk0 hs2 (fun v3 hz hg hs_ hb => ?_) rn) (hrun := dcl Tryz.func26 (by kernel_rfl) rfl rfl (by (try simp only [List.map_toArray, List.map_cons, List.map_nil]); first | done | rfl)))
   ·obtain ⟨q3, a3, rfl, hx⟩ := hR
    refine ⟨_, rfl, no 12 ?_⟩
    have hB3 := below_step hB2 hb
    have g5_3 := blk_below g5_2 hb
    have X1_3 := X1_2.below hb
    have X3_3 := hx.bnd
    have hz3 := hb.size
    have hs3 := hs_
    clear hx hs_ hb
    refine rdy [4] (rb 4 6 63 (.cells #[.string ⟨#[]⟩, .nilIface, .bool false, .slice none 0 0, .slice none 0 0] 61 (0, 0)) hk0 hs3 (fun v4 hz hg hs_ hb => ?_) rn)
    ·refine no 6 ?_
     have hB4 := below_step hB3 hb
     have g5_4 := blk_below g5_3 hb
     have X1_4 := X1_3.below hb
     have X3_4 := X3_3.below hb
     have g4_4 := hg
     have hz4 : v4.heap.size ≤ v3.heap.size + 1 ∧ v3.heap.size + 1 ≤ v4.heap.size := by omega
     have hs4 := hs_
     clear hg hz hs_ hb
     refine norm_ ?_ (hj (q1, a1, q3, a3, v3.heap.size, w2.heap.size) v4 hs4 ⟨hB4, g4_4, g5_4, _, _, _, _, X1_4, X3_4, by dsimp only; omega⟩)
     simp only [putAll, Act.put, s1_, s2_, s3_, i64_w, i32_w] <;> rfl
   ·refine no 6 ?_
    have hB3 := below_step hB2 hb
    have g5_3 := blk_below g5_2 hb
    have X1_3 := X1_2.below hb
    have g4_3 := hg
    have hz3 : v3.heap.size ≤ v2.heap.size + 1 ∧ v2.heap.size + 1 ≤ v3.heap.size := by omega
    have hs3 := hs_
    clear hg hz hs_ hb
    refine rdy [3] (rc 3 12 63 hk0 hs3 (mk26 (makesT k T' d' HC.out.2.1) v3 A10' A11' A12' c10' c11' c12' (Kd.C_below HC.out.2.2.2.2.1 (below_step HB.out.1 hs3.1)) (Kd.C_below HC.out.2.2.2.2.2 (below_step HB.out.1 hs3.1))) (fun e v4 hR hs_ hb => ?_) rn (hrun := dcl Tryz.func26 (by kernel_rfl) rfl rfl (by (try simp only [List.map_toArray, List.map_cons, List.map_nil]); first | done | rfl)))
    ·obtain ⟨q3, a3, rfl, hx⟩ := hR
     refine ⟨_, rfl, no 12 ?_⟩
     have hB4 := below_step hB3 hb
     have g4_4 := blk_below g4_3 hb
     have g5_4 := blk_below g5_3 hb
     have X1_4 := X1_3.below hb
     have X3_4 := hx.bnd
     have hz4 := hb.size
     have hs4 := hs_
     clear hx hs_ hb
     refine norm_ ?_ (hj (q1, a1, q3, a3, v2.heap.size, w2.heap.size) v4 hs4 ⟨hB4, g4_4, g5_4, _, _, _, _, X1_4, X3_4, by dsimp only; omega⟩)
     simp only [putAll, Act.put, s1_, s2_, s3_, i64_w, i32_w] <;> rfl
  ·refine no 6 ?_
   have hB2 := below_step hB1 hb
   have g5_2 := blk_below g5_1 hb
   have g4_2 := hg
   have hz2 : v2.heap.size ≤ v1.heap.size + 1 ∧ v1.heap.size + 1 ≤ v2.heap.size := by omega
   have hs2 := hs_
   clear hg hz hs_ hb
   refine rdy [1] (rc 1 10 55 hk0 hs2 (mk26 (makesT k T d HC.out.1) v2 A10 A11 A12 c10 c11 c12 (Kd.C_below HC.out.2.2.1 (below_step HB.out.1 hs2.1)) (Kd.C_below HC.out.2.2.2.1 (below_step HB.out.1 hs2.1))) (fun e v3 hR hs_ hb => ?_) rn (hrun := dcl Tryz.func26 (by kernel_rfl) rfl rfl (by (try simp only [List.map_toArray, List.map_cons, List.map_nil]); first | done | rfl)))
   ·obtain ⟨q1, a1, rfl, hx⟩ := hR
    refine ⟨_, rfl, no 10 ?_⟩
    have hB3 := below_step hB2 hb
    have g4_3 := blk_below g4_2 hb
    have g5_3 := blk_below g5_2 hb
    have X1_3 := hx.bnd
    have hz3 := hb.size
    have hs3 := hs_
    clear hx hs_ hb
    refine rdy [3] (rc 3 12 63 hk0 hs3 (mk26 (makesT k T' d' HC.out.2.1) v3 A10' A11' A12' c10' c11' c12' (Kd.C_below HC.out.2.2.2.2.1 (below_step HB.out.1 hs3.1)) (Kd.C_below HC.out.2.2.2.2.2 (below_step HB.out.1 hs3.1))) (fun e v4 hR hs_ hb => ?_) rn (hrun := dcl Tryz.func26 (by kernel_rfl) rfl rfl (by (try simp only [List.map_toArray, List.map_cons, List.map_nil]); first | done | rfl)))
    ·obtain ⟨q3, a3, rfl, hx⟩ := hR
     refine ⟨_, rfl, no 12 ?_⟩
     have hB4 := below_step hB3 hb
     have g4_4 := blk_below g4_3 hb
     have g5_4 := blk_below g5_3 hb
     have X1_4 := X1_3.below hb
     have X3_4 := hx.bnd
     have hz4 := hb.size
     have hs4 := hs_
     clear hx hs_ hb
     refine norm_ ?_ (hj (q1, a1, q3, a3, v1.heap.size, w2.heap.size) v4 hs4 ⟨hB4, g4_4, g5_4, _, _, _, _, X1_4, X3_4, by dsimp only; omega⟩)
     simp only [putAll, Act.put, s1_, s2_, s3_, i64_w, i32_w] <;> rfl
end Go.Proofs.YteebgnhhjlgnjaaGreatDoor.V
