/- impl.SchemaAdd. -/
import Derived.Test.YteebgnhhjlgnjaaGreatDoorB13
import Derived.Test.YteebgnhhjlgnjaaGreatDoorAF
namespace Go.Proofs.YteebgnhhjlgnjaaGreatDoor.V
open Go.RowKit Go.Proofs.YteebgnhhjlgnjaaGreatDoorW.PrintWords Go.Proofs.YteebgnhhjlgnjaaGreatDoorW.PrintLast Go.Proofs.YteebgnhhjlgnjaaGreatDoorW.PrintMore
set_option maxHeartbeats 40000000
set_option maxRecDepth 100000
set_option linter.unusedVariables false
set_option linter.unusedSimpArgs false
def SF (f : S30) (d : DF) : Prop := ∃ n b T t, f = ⟨n, b, T, []⟩ ∧ d = .mk n t b ∧ TD 4 T t ∧ n.size ≤ 100
theorem SF.makes {fs : List S30} {ds : List DF} (h : All2 SF fs ds) : All2 MakesF fs ds := by
 induction h with
 | nil => exact .nil
 | cons hab _ ih =>
  obtain ⟨n, b, T, t, rfl, rfl, hT, _⟩ := hab
  exact .cons (makesF_of (makesT 4 T t hT) n b) ih
theorem SF.backs {fs : List S30} {ds : List DF} (h : All2 SF fs ds) : All2 BkF fs ds := by
 induction h with
 | nil => exact .nil
 | cons hab _ ih =>
  obtain ⟨n, b, T, t, rfl, rfl, hT, _⟩ := hab
  exact .cons ⟨n, b, T, t, rfl, rfl, bkT 4 T t hT⟩ ih
theorem SF.names {fs : List S30} {ds : List DF} (h : All2 SF fs ds) : ∀ d ∈ ds, d.name.size ≤ maxLen := by
 induction h with
 | nil => intro d hd; simp at hd
 | cons hab _ ih =>
  obtain ⟨n, b, T, t, rfl, rfl, hT, hn⟩ := hab
  intro d hd
  rcases List.mem_cons.1 hd with rfl | hd
  ·show n.size ≤ maxLen
   unfold maxLen
   omega
  ·exact ih d hd
theorem SF.ins {f : S30} {d : DF} (h : SF f d) : ∀ (i : Nat) {fs : List S30} {ds : List DF}, All2 SF fs ds → All2 SF (fs.take i ++ f :: fs.drop i) (ds.take i ++ d :: ds.drop i)
 | 0, fs, ds, hs => by simpa using All2.cons h hs
 | i + 1, _, _, .nil => by simpa using All2.cons h .nil
 | i + 1, _, _, .cons ha hs => by simpa using All2.cons ha (SF.ins h i hs)
theorem mk26_ {n : ByteArray} {o : Bool} {T : S28} {d : DT} (h : MakesT T d) (w : World) (A10 A11 A12 : Option Addr) (c10 c11 c12 : Nat) (g10 : Kd.C (Kd.int .i64) w A10 T.f8.length T.f8) (g11 : Kd.C k30 w A11 T.f9.length T.f9) :
 Calls Tryz.prog 26 #[.agg #[.string n, .bool o, .int .i64 T.f0, .int .i64 T.f1, .bool T.f2, .int .i64 T.f3, .int .i64 T.f4, .int .i64 T.f5, .string T.f6, .bool T.f7, .slice A10 T.f8.length c10, .slice A11 T.f9.length c11, .slice A12 0 c12]] w fun e w' => (∃ q a, e = .returned (.agg #[.string n, .iface q (.pointer (some a)), .bool o, .slice none 0 0, .slice none 0 0]) ∧ DTIn w' (fun k => w.heap.size ≤ k) d (.iface q (.pointer (some a)))) ∧ Below w.heap.size w w' :=
 (field26 n o T.f0 T.f1 T.f2 T.f3 T.f4 T.f5 T.f6 T.f7 A10 A11 A12 T.f8.length c10 T.f9.length c11 c12 d w (fun W hb => h W A10 A11 c10 c11 (Kd.C_below g10 hb) (Kd.C_below g11 hb))).mono fun e w' h => by
  obtain ⟨cs, rfl, ⟨x, rfl, hx⟩, hb⟩ := h
  obtain ⟨q, a, rfl⟩ := hx.form
  exact ⟨⟨q, a, rfl, hx⟩, hb⟩
theorem catch23 (p q : Addr) (w : World) :
 CallsD Tryz.prog 23 #[.pointer (some p), .pointer (some q)] .returning w fun e u' w' => e = .returned (.tuple #[]) ∧ u' = .returning ∧ w = w' := by
 refine callsD_of_wpS Tryz.func23 rfl fun c₀ cs hu => ?_
 apply wpS_seq
 apply wpS_region
 simp [wpOpsS, go_sem, recoverD, hu, Tryz.ntmps23, Exit.thenS]
 refine wpS_cond (t := false) (by simp [Act.eval, Array.replicate]) ?_
 simp only [Bool.false_eq_true, if_false]
 refine wpS_of_wp (wp_skip ?_)
 cases c₀
 simp_all [bodyPostS, results, Tryz.results23]
theorem add11_no (fs : List S30) (ds : List DF) (h : All2 SF fs ds) (hl : fs.length ≤ 20) (ms : List S73) (hm : ms.length ≤ 20) (at_ : Int) (hat : at_ < 0 ∨ (fs.length : Int) < at_) (nm : ByteArray) (b : Bool) (T : S28) (dt : DT) (hT : TD 4 T dt) (hnm : nm.size ≤ 100) (A9 Am A10 A11 A12 : Option Addr) (c9 cm c10 c11 c12 : Nat) (w : World) (g9 : Kd.C k30 w A9 fs.length fs) (gm : Kd.C k73 w Am ms.length ms) (g10 : Kd.C (Kd.int .i64) w A10 T.f8.length T.f8) (g11 : Kd.C k30 w A11 T.f9.length T.f9) :
 Calls Tryz.prog 11 #[.agg #[.slice A9 fs.length c9, .slice Am ms.length cm], .int .i64 at_, .agg #[.string nm, .bool b, .int .i64 T.f0, .int .i64 T.f1, .bool T.f2, .int .i64 T.f3, .int .i64 T.f4, .int .i64 T.f5, .string T.f6, .bool T.f7, .slice A10 T.f8.length c10, .slice A11 T.f9.length c11, .slice A12 0 c12]] w fun e w' => e = .returned (.tuple #[.agg #[.slice none 0 0, .slice none 0 0], .bool false]) ∧ Below w.heap.size w w' := by
 have hlen := h.length
 have HH := Aside0.mk (And.intro h (And.intro hl (And.intro hm (And.intro hat (And.intro hT (And.intro hnm hlen))))))
 have HC := Aside0.mk (And.intro g9 (And.intro gm (And.intro g10 g11)))
 clear h hl hm hat hT hnm hlen g9 gm g10 g11
 have hmf : ∀ (fn : Fn) (first cap : Array Value) (w : World), (Instr.makeFunc fn first cap).run Tryz.prog w = .ok (.func fn first cap) w := fun _ _ _ _ => rfl
 go_enter_defers Tryz.func11, Tryz.ntmps11
 go_upto_region 2 with fail
 clear hmf
 refine wp_region_noPanic ?_
 refine wp_at ?_
 intro w1 hw1
 have b1 : Below w.heap.size w w1 := by rw [hw1]; repeat (first | exact Below.refl _ _ | apply b1_ | apply b2_ | apply b3_)
 have k1 : w1.heap[w.heap.size]? = some (.cells #[.slice A9 fs.length c9, .slice Am ms.length cm] 25 (0, 0)) := by rw [hw1]; exact blk_alloc_ (blk_alloc_ (blk_alloc_ (blk_new _ _)))
 have k2 : w1.heap[w.heap.size + 1]? = some (.cells #[.string nm, .bool b, .int .i64 T.f0, .int .i64 T.f1, .bool T.f2, .int .i64 T.f3, .int .i64 T.f4, .int .i64 T.f5, .string T.f6, .bool T.f7, .slice A10 T.f8.length c10, .slice A11 T.f9.length c11, .slice A12 0 c12] 30 (0, 0)) := by rw [hw1]; exact blk_alloc_ (blk_alloc_ (blk_new_at (by simp [alloc_size_])))
 have r6 : w1.heap[w.heap.size + 2]? = some (.cells #[.slice none 0 0, .slice none 0 0] 25 (0, 0)) := by rw [hw1]; exact blk_alloc_ (blk_new_at (by simp [alloc_size_]))
 have r7 : w1.heap[w.heap.size + 3]? = some (.cells #[.bool false] 4 (0, 0)) := by rw [hw1]; exact blk_new_at (by simp [alloc_size_])
 clear hw1
 obtain ⟨y0, y1⟩ := cb2 k1
 obtain ⟨z0, z1, z2, z3, z4, z5, z6, z7, z8, z9, z10, z11, z12⟩ := cb13 k2
 refine sc 11 (fun w' => Below w.heap.size w w' ∧ w'.cell? ⟨w.heap.size, 0, none⟩ = some (.slice A9 fs.length c9) ∧ w'.cell? ⟨w.heap.size, 1, none⟩ = some (.slice Am ms.length cm) ∧ w'.cell? ⟨w.heap.size + 1, 0, none⟩ = some (.string nm) ∧ w'.cell? ⟨w.heap.size + 1, 1, none⟩ = some (.bool b) ∧ w'.cell? ⟨w.heap.size + 1, 2, none⟩ = some (.int .i64 T.f0) ∧ w'.cell? ⟨w.heap.size + 1, 3, none⟩ = some (.int .i64 T.f1) ∧ w'.cell? ⟨w.heap.size + 1, 4, none⟩ = some (.bool T.f2) ∧ w'.cell? ⟨w.heap.size + 1, 5, none⟩ = some (.int .i64 T.f3) ∧ w'.cell? ⟨w.heap.size + 1, 6, none⟩ = some (.int .i64 T.f4) ∧ w'.cell? ⟨w.heap.size + 1, 7, none⟩ = some (.int .i64 T.f5) ∧ w'.cell? ⟨w.heap.size + 1, 8, none⟩ = some (.string T.f6) ∧ w'.cell? ⟨w.heap.size + 1, 9, none⟩ = some (.bool T.f7) ∧ w'.cell? ⟨w.heap.size + 1, 10, none⟩ = some (.slice A10 T.f8.length c10) ∧ w'.cell? ⟨w.heap.size + 1, 11, none⟩ = some (.slice A11 T.f9.length c11) ∧ w'.cell? ⟨w.heap.size + 1, 12, none⟩ = some (.slice A12 0 c12)) (fun hk0 v1 hs1 hb => ?_)
 have R1 := Aside0.mk (And.intro (blk_below r6 hb) (blk_below r7 hb))
 clear b1 k1 k2 r6 r7 hb y0 y1 z0 z1 z2 z3 z4 z5 z6 z7 z8 z9 z10 z11 z12
 refine ta 0 12 1 ?_
 refine pu 2 14 5 ?_
 refine ta 3 15 13 ?_
 refine ca 1 13 15 Tryz.func24 #[.agg #[.slice A9 fs.length c9, .slice Am ms.length cm]] hk0 hs1 (sch24 grpAll fs ds (SF.makes HH.out.1) (by have := HH.out.2.1; omega) (fun d hd => ⟨SF.names HH.out.1 d hd, trivial⟩) ms (by have := HH.out.2.2.1; omega) A9 Am c9 cm v1 (Kd.C_below HC.out.1 hs1.1) (Kd.C_below HC.out.2.1 hs1.1)) (fun e v2 hR hs2 hb2 => ?_)
 obtain ⟨S1, rfl, hS1⟩ := hR
 refine ⟨_, rfl, no 13 ?_⟩
 refine ca 4 16 31 Tryz.func26 #[.agg #[.string nm, .bool b, .int .i64 T.f0, .int .i64 T.f1, .bool T.f2, .int .i64 T.f3, .int .i64 T.f4, .int .i64 T.f5, .string T.f6, .bool T.f7, .slice A10 T.f8.length c10, .slice A11 T.f9.length c11, .slice A12 0 c12]] hk0 hs2 (mk26_ (makesT 4 T dt HH.out.2.2.2.2.1) v2 A10 A11 A12 c10 c11 c12 (Kd.C_below HC.out.2.2.1 hs2.1) (Kd.C_below HC.out.2.2.2 hs2.1)) (fun e v3 hR hs3 hb3 => ?_)
 obtain ⟨fq, fa, rfl, hX⟩ := hR
 refine ⟨_, rfl, no 16 ?_⟩
 have hd : ds.length = fs.length := HH.out.2.2.2.2.2.2.symm
 refine ca 5 17 63 Tryz.func25 #[.pointer (some ⟨S1, 0, none⟩), .int .i64 at_, .agg #[.string nm, .iface fq (.pointer (some fa)), .bool b, .slice none 0 0, .slice none 0 0]] hk0 hs3 (add25_no S1 ds ms.length v1.heap.size at_ (by rw [hd]; exact HH.out.2.2.2.1) nm fq fa b _ rfl v3 (hS1.below grpAll hb3)) (fun e v4 hR hs4 hb4 => ?_)
 obtain ⟨eq_, ea, rfl⟩ := hR
 refine ⟨_, rfl, no 17 ?_⟩
 have R4 := Aside0.mk (And.intro (blk_below (blk_below (blk_below R1.out.1 hb2) hb3) hb4) (And.intro (blk_below (blk_below (blk_below R1.out.2 hb2) hb3) hb4) hs4.1))
 refine pu 6 11 127 ?_
 refine pu 7 18 255 ?_
 refine pu 8 19 511 ?_
 refine pu 9 8 1023 ?_
 refine pu 10 9 2047 ?_
 refine done_ (by kernel_rfl) ?_
 refine NoPanic.normal ?_
 have x0 := (blk_cell R4.out.1 0).trans (show _ = some (.slice none 0 0 : Value) from rfl)
 have x1 := (blk_cell R4.out.1 1).trans (show _ = some (.slice none 0 0 : Value) from rfl)
 have x2 := (blk_cell R4.out.2.1 0).trans (show _ = some (.bool false : Value) from rfl)
 have f0 := blk_frozen R4.out.1 0
 have f1 := blk_frozen R4.out.1 1
 have f2 := blk_frozen R4.out.2.1 0
 clear hk0 hs1 hs2 hs3 hs4 hb2 hb3 hb4 hS1 hX hd
 go_wp2
 refine leaves_cons (f := 23) (args := #[.pointer (some ⟨w.heap.size + 2, 0, none⟩), .pointer (some ⟨w.heap.size + 3, 0, none⟩)]) (by simp) (by simp [go_sem]) ?_
 refine (catch23 _ _ _).mono ?_
 rintro e u' w'' ⟨rfl, rfl, rfl⟩
 obtain ⟨q6, q7, bF⟩ := R4.out
 have n6 := blk_other_ (i := 0) (u := .bool false) (show w.heap.size + 2 ≠ w.heap.size + 3 by omega) (blk_put_at (i := 1) (u := .slice none 0 0) (blk_put_at (i := 0) (u := .slice none 0 0) q6 rfl) rfl)
 have n7 := blk_put_at (i := 0) (u := .bool false) (blk_other_ (i := 1) (u := .slice none 0 0) (show w.heap.size + 3 ≠ w.heap.size + 2 by omega) (blk_other_ (i := 0) (u := .slice none 0 0) (show w.heap.size + 3 ≠ w.heap.size + 2 by omega) q7)) rfl
 have e0 := (blk_cell n6 0).trans (show _ = some (.slice none 0 0 : Value) from rfl)
 have e1 := (blk_cell n6 1).trans (show _ = some (.slice none 0 0 : Value) from rfl)
 have e2 := (blk_cell n7 0).trans (show _ = some (.bool false : Value) from rfl)
 simp [Leaves, settle, results, Tryz.results11, go_sem, e0, e1, e2]
 exact ((bF.setCell (by dsimp only; omega) _).setCell (by dsimp only; omega) _).setCell (by dsimp only; omega) _
theorem add11_yes (fs : List S30) (ds : List DF) (h : All2 SF fs ds) (hl : fs.length ≤ 20) (ms : List S73) (hm : ms.length ≤ 20) (i : Nat) (hi : i ≤ fs.length) (nm : ByteArray) (b : Bool) (T : S28) (dt : DT) (hT : TD 4 T dt) (hnm : nm.size ≤ 100) (A9 Am A10 A11 A12 : Option Addr) (c9 cm c10 c11 c12 : Nat) (w : World) (g9 : Kd.C k30 w A9 fs.length fs) (gm : Kd.C k73 w Am ms.length ms) (g10 : Kd.C (Kd.int .i64) w A10 T.f8.length T.f8) (g11 : Kd.C k30 w A11 T.f9.length T.f9) :
 Calls Tryz.prog 11 #[.agg #[.slice A9 fs.length c9, .slice Am ms.length cm], .int .i64 (i : Int), .agg #[.string nm, .bool b, .int .i64 T.f0, .int .i64 T.f1, .bool T.f2, .int .i64 T.f3, .int .i64 T.f4, .int .i64 T.f5, .string T.f6, .bool T.f7, .slice A10 T.f8.length c10, .slice A11 T.f9.length c11, .slice A12 0 c12]] w fun e w' => (∃ A c B m d, e = .returned (.tuple #[.agg #[.slice A (fs.take i ++ ⟨nm, b, T, []⟩ :: fs.drop i).length c, .slice B m d], .bool true]) ∧ RowB w' w.heap.size A c (fs.take i ++ ⟨nm, b, T, []⟩ :: fs.drop i)) ∧ Below w.heap.size w w' := by
 have hlen := h.length
 have HH := Aside0.mk (And.intro h (And.intro hl (And.intro hm (And.intro hi (And.intro hT (And.intro hnm hlen))))))
 have HC := Aside0.mk (And.intro g9 (And.intro gm (And.intro g10 g11)))
 clear h hl hm hi hT hnm hlen g9 gm g10 g11
 have hmf : ∀ (fn : Fn) (first cap : Array Value) (w : World), (Instr.makeFunc fn first cap).run Tryz.prog w = .ok (.func fn first cap) w := fun _ _ _ _ => rfl
 go_enter_defers Tryz.func11, Tryz.ntmps11
 go_upto_region 2 with fail
 clear hmf
 refine wp_region_noPanic ?_
 refine wp_at ?_
 intro w1 hw1
 have b1 : Below w.heap.size w w1 := by rw [hw1]; repeat (first | exact Below.refl _ _ | apply b1_ | apply b2_ | apply b3_)
 have k1 : w1.heap[w.heap.size]? = some (.cells #[.slice A9 fs.length c9, .slice Am ms.length cm] 25 (0, 0)) := by rw [hw1]; exact blk_alloc_ (blk_alloc_ (blk_alloc_ (blk_new _ _)))
 have k2 : w1.heap[w.heap.size + 1]? = some (.cells #[.string nm, .bool b, .int .i64 T.f0, .int .i64 T.f1, .bool T.f2, .int .i64 T.f3, .int .i64 T.f4, .int .i64 T.f5, .string T.f6, .bool T.f7, .slice A10 T.f8.length c10, .slice A11 T.f9.length c11, .slice A12 0 c12] 30 (0, 0)) := by rw [hw1]; exact blk_alloc_ (blk_alloc_ (blk_new_at (by simp [alloc_size_])))
 have r6 : w1.heap[w.heap.size + 2]? = some (.cells #[.slice none 0 0, .slice none 0 0] 25 (0, 0)) := by rw [hw1]; exact blk_alloc_ (blk_new_at (by simp [alloc_size_]))
 have r7 : w1.heap[w.heap.size + 3]? = some (.cells #[.bool false] 4 (0, 0)) := by rw [hw1]; exact blk_new_at (by simp [alloc_size_])
 clear hw1
 obtain ⟨y0, y1⟩ := cb2 k1
 obtain ⟨z0, z1, z2, z3, z4, z5, z6, z7, z8, z9, z10, z11, z12⟩ := cb13 k2
 refine sc 11 (fun w' => Below w.heap.size w w' ∧ w'.cell? ⟨w.heap.size, 0, none⟩ = some (.slice A9 fs.length c9) ∧ w'.cell? ⟨w.heap.size, 1, none⟩ = some (.slice Am ms.length cm) ∧ w'.cell? ⟨w.heap.size + 1, 0, none⟩ = some (.string nm) ∧ w'.cell? ⟨w.heap.size + 1, 1, none⟩ = some (.bool b) ∧ w'.cell? ⟨w.heap.size + 1, 2, none⟩ = some (.int .i64 T.f0) ∧ w'.cell? ⟨w.heap.size + 1, 3, none⟩ = some (.int .i64 T.f1) ∧ w'.cell? ⟨w.heap.size + 1, 4, none⟩ = some (.bool T.f2) ∧ w'.cell? ⟨w.heap.size + 1, 5, none⟩ = some (.int .i64 T.f3) ∧ w'.cell? ⟨w.heap.size + 1, 6, none⟩ = some (.int .i64 T.f4) ∧ w'.cell? ⟨w.heap.size + 1, 7, none⟩ = some (.int .i64 T.f5) ∧ w'.cell? ⟨w.heap.size + 1, 8, none⟩ = some (.string T.f6) ∧ w'.cell? ⟨w.heap.size + 1, 9, none⟩ = some (.bool T.f7) ∧ w'.cell? ⟨w.heap.size + 1, 10, none⟩ = some (.slice A10 T.f8.length c10) ∧ w'.cell? ⟨w.heap.size + 1, 11, none⟩ = some (.slice A11 T.f9.length c11) ∧ w'.cell? ⟨w.heap.size + 1, 12, none⟩ = some (.slice A12 0 c12)) (fun hk0 v1 hs1 hb => ?_)
 have R1 := Aside0.mk (And.intro (blk_below r6 hb) (blk_below r7 hb))
 clear b1 k1 k2 r6 r7 hb y0 y1 z0 z1 z2 z3 z4 z5 z6 z7 z8 z9 z10 z11 z12
 refine ta 0 12 1 ?_
 refine pu 2 14 5 ?_
 refine ta 3 15 13 ?_
 refine ca 1 13 15 Tryz.func24 #[.agg #[.slice A9 fs.length c9, .slice Am ms.length cm]] hk0 hs1 (sch24 grpAll fs ds (SF.makes HH.out.1) (by have := HH.out.2.1; omega) (fun d hd => ⟨SF.names HH.out.1 d hd, trivial⟩) ms (by have := HH.out.2.2.1; omega) A9 Am c9 cm v1 (Kd.C_below HC.out.1 hs1.1) (Kd.C_below HC.out.2.1 hs1.1)) (fun e v2 hR hs2 hb2 => ?_)
 obtain ⟨S1, rfl, hS1⟩ := hR
 refine ⟨_, rfl, no 13 ?_⟩
 refine ca 4 16 31 Tryz.func26 #[.agg #[.string nm, .bool b, .int .i64 T.f0, .int .i64 T.f1, .bool T.f2, .int .i64 T.f3, .int .i64 T.f4, .int .i64 T.f5, .string T.f6, .bool T.f7, .slice A10 T.f8.length c10, .slice A11 T.f9.length c11, .slice A12 0 c12]] hk0 hs2 (mk26_ (makesT 4 T dt HH.out.2.2.2.2.1) v2 A10 A11 A12 c10 c11 c12 (Kd.C_below HC.out.2.2.1 hs2.1) (Kd.C_below HC.out.2.2.2 hs2.1)) (fun e v3 hR hs3 hb3 => ?_)
 obtain ⟨fq, fa, rfl, hX⟩ := hR
 refine ⟨_, rfl, no 16 ?_⟩
 have hd : ds.length = fs.length := HH.out.2.2.2.2.2.2.symm
 have hins := add25 S1 ds ms.length v1.heap.size i (by have := HH.out.2.2.2.1; omega) (by have := HH.out.2.1; omega) (by have := HH.out.2.2.1; omega) (.mk nm dt b) (SF.names HH.out.1) (by show nm.size ≤ maxLen; have := HH.out.2.2.2.2.2.1; unfold maxLen; omega) _ (fun k => v2.heap.size ≤ k) v3 (hS1.below grpAll hb3) ⟨_, rfl, hX⟩
 refine ca 5 17 63 Tryz.func25 #[.pointer (some ⟨S1, 0, none⟩), .int .i64 (i : Int), .agg #[.string nm, .iface fq (.pointer (some fa)), .bool b, .slice none 0 0, .slice none 0 0]] hk0 hs3 hins (fun e v4 hR hs4 hb4 => ?_)
 obtain ⟨S2, rfl, hS2⟩ := hR
 refine ⟨_, rfl, no 17 ?_⟩
 have R4 := Aside0.mk (And.intro (blk_below (blk_below (blk_below R1.out.1 hb2) hb3) hb4) (And.intro (blk_below (blk_below (blk_below R1.out.2 hb2) hb3) hb4) hs4.1))
 refine pu 6 11 127 ?_
 refine pu 7 18 255 ?_
 refine pu 8 19 511 ?_
 refine pu 9 8 1023 ?_
 refine pu 10 9 2047 ?_
 refine done_ (by kernel_rfl) ?_
 refine NoPanic.normal ?_
 have hb14 := SF.backs (SF.ins (f := ⟨nm, b, T, []⟩) (d := .mk nm dt b) ⟨_, _, _, _, rfl, rfl, HH.out.2.2.2.2.1, HH.out.2.2.2.2.2.1⟩ i HH.out.1)
 have hcall := back27 S2 _ _ ms.length v3.heap.size hb14 (by have := HH.out.2.1; simp; omega) (by have := HH.out.2.2.1; omega) v4 hS2
 have HCALL := Aside0.mk hcall
 clear hk0 hs1 hs2 hs3 hs4 hb2 hb3 hb4 hS1 hS2 hX hd hins hb14 hcall
 go_wp2_with (go_at_call 27; fail)
 refine HCALL.out.mono ?_
 rintro e v5 ⟨⟨A2, c2, B, m2, d2, rfl, hRB⟩, hb5⟩
 have R5 := Aside0.mk (And.intro (blk_below R4.out.1 hb5) (And.intro (blk_below R4.out.2.1 hb5) (And.intro (below_step R4.out.2.2 hb5) (And.intro hRB (blk_lt R4.out.2.1)))))
 clear hRB hb5
 have x0 := (blk_cell R5.out.1 0).trans (show _ = some (.slice none 0 0 : Value) from rfl)
 have x1 := (blk_cell R5.out.1 1).trans (show _ = some (.slice none 0 0 : Value) from rfl)
 have x2 := (blk_cell R5.out.2.1 0).trans (show _ = some (.bool false : Value) from rfl)
 have f0 := blk_frozen R5.out.1 0
 have f1 := blk_frozen R5.out.1 1
 have f2 := blk_frozen R5.out.2.1 0
 obtain ⟨L, hL⟩ : ∃ L, L = (fs.take i ++ ⟨nm, b, T, []⟩ :: fs.drop i).length := ⟨_, rfl⟩
 rw [← hL]
 have HL := Aside0.mk hL
 clear hL
 go_wp2
 refine leaves_cons (f := 23) (args := #[.pointer (some ⟨w.heap.size + 2, 0, none⟩), .pointer (some ⟨w.heap.size + 3, 0, none⟩)]) (by simp) (by simp [go_sem]) ?_
 refine (catch23 _ _ _).mono ?_
 rintro e u' w'' ⟨rfl, rfl, rfl⟩
 obtain ⟨q6, q7, bF, hRB, hlt⟩ := R5.out
 have n6 := blk_other_ (i := 0) (u := .bool true) (show w.heap.size + 2 ≠ w.heap.size + 3 by omega) (blk_put_at (i := 1) (u := .slice B m2 d2) (blk_put_at (i := 0) (u := .slice A2 L c2) q6 rfl) rfl)
 have n7 := blk_put_at (i := 0) (u := .bool true) (blk_other_ (i := 1) (u := .slice B m2 d2) (show w.heap.size + 3 ≠ w.heap.size + 2 by omega) (blk_other_ (i := 0) (u := .slice A2 L c2) (show w.heap.size + 3 ≠ w.heap.size + 2 by omega) q7)) rfl
 have e0 := (blk_cell n6 0).trans (show _ = some (.slice A2 L c2 : Value) from rfl)
 have e1 := (blk_cell n6 1).trans (show _ = some (.slice B m2 d2 : Value) from rfl)
 have e2 := (blk_cell n7 0).trans (show _ = some (.bool true : Value) from rfl)
 simp [Leaves, settle, results, Tryz.results11, go_sem, e0, e1, e2]
 refine ⟨⟨A2, c2, ⟨rfl, by have := HL.out; simpa using this, rfl⟩, hRB.step (fun k hk _ => ?_) (by omega)⟩, ?_⟩
 ·rw [heap_setCell_other _ _ _ _ (show k ≠ w.heap.size + 1 + 1 + 1 by omega), heap_setCell_other _ _ _ _ (show k ≠ w.heap.size + 1 + 1 by omega), heap_setCell_other _ _ _ _ (show k ≠ w.heap.size + 1 + 1 by omega)]
 ·exact ((bF.setCell (by dsimp only; omega) _).setCell (by dsimp only; omega) _).setCell (by dsimp only; omega) _
end Go.Proofs.YteebgnhhjlgnjaaGreatDoor.V
