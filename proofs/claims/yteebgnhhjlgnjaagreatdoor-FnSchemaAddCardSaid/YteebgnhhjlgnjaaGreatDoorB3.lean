/- impl.nestedBack at maps, lists of a fixed size, unions and dictionaries. -/
import Derived.Test.YteebgnhhjlgnjaaGreatDoorB0
import Derived.Test.YteebgnhhjlgnjaaGreatDoorE5
import Derived.Test.YteebgnhhjlgnjaaGreatDoorE2
namespace Go.Proofs.YteebgnhhjlgnjaaGreatDoor.V
open Go.RowKit Go.Proofs.YteebgnhhjlgnjaaGreatDoorW.PrintWords Go.Proofs.YteebgnhhjlgnjaaGreatDoorW.PrintLast Go.Proofs.YteebgnhhjlgnjaaGreatDoorW.PrintMore
set_option maxHeartbeats 40000000
set_option maxRecDepth 100000
set_option linter.unusedVariables false
set_option linter.unusedSimpArgs false
attribute [local go_sem] n_198 y_198 n_200 y_200 n_202 y_202 n_204 y_204 n_206 y_206 n_208 y_208 n_210 y_210 n_212 y_212 n_161 y_161 n_233 y_233 n_154 y_154 n_180 y_180 n_236 y_236 n_158 y_158 n_165 y_165 n_224 y_224 n_226 y_226 n_177 y_177 n_229 y_229
def BkT (T : S28) (d : DT) : Prop := ∀ (w : World) (ok : Nat → Prop) (v : Value), DTIn w ok d v → Calls Tryz.prog 79 #[v] w fun e w' => (∃ cs : List Value, e = .returned (.agg cs.toArray) ∧ BTIn w' (fun k => w.heap.size ≤ k) T cs) ∧ Below w.heap.size w w'
section
variable {P : Program} {md : Region.Mode} {ops : Array Oper} {Q : Exit → Act → World → Prop} {S : World → Prop} {ds : List Nat} {n m fuel : Nat} {oi : Oper} {a a' : Act} {w : World} {l : Array Bool}
theorem rl (i N M : Nat) {rs : List Nat} (v : Value) (o : Obj) (hk : Kept S) (hs : S w) (h : ∀ w', w'.heap.size = w.heap.size + 1 → w'.heap[w.heap.size]? = some o → S w' → Below w.heap.size w w' → wpAnyLast P md ops Q S ds fuel (ba n M) (a.put (some N) v) w')
 (hr : AllReadyL P md ops Q S ds fuel (ba n m) a w rs) (hi : ops[i]? = some oi := by exact rfl) (hN : oi.dst = some N := by exact rfl)
 (hl : (ba n m).setIfInBounds i true = ba n M := by kernel_rfl) (hd : i ∉ ds := by decide) (hw : Region.wanted oi (yielded ops a.tmps) = true := by rfl) (hrun : (execOp a.eval oi).run P w = .ok (.value v) (w.alloc o) := by first | (go_simp; done) | (go_simp; rfl)) : AllReadyL P md ops Q S ds fuel (ba n m) a w (i :: rs) :=
 ra i N M o hk hs (fun h1 h2 => h _ (alloc_size_ _ _) (blk_new _ _) h1 h2) hr hi hN hl hd hw hrun
end
def RowI (W : World) (base : Nat) (A : Option Addr) (c : Nat) (ids : List Int) : Prop := ids.length ≤ c ∧ ids.length ≤ 9223372036854775807 ∧ (0 < ids.length → ∃ b, ∃ arr : Array Value, A = some ⟨b, 0, none⟩ ∧ base ≤ b ∧ W.heap[b]? = some (.cells arr 3 (0, 0)) ∧ ∀ (j : Nat) (x : Int), ids[j]? = some x → arr[j]? = some (Value.int .i64 x))
theorem RowI.step {W W' : World} {base base' : Nat} {A : Option Addr} {c : Nat} {ids : List Int} (h : RowI W base A c ids) (hm : ∀ k, base ≤ k → k < W.heap.size → W'.heap[k]? = W.heap[k]?) (hb : base' ≤ base) : RowI W' base' A c ids :=
 ⟨h.1, h.2.1, fun hn => by
  obtain ⟨b, arr, e, h1, h2, h3⟩ := h.2.2 hn
  exact ⟨b, arr, e, Nat.le_trans hb h1, (hm b h1 (blk_lt h2)).trans h2, h3⟩⟩
theorem RowI.below {W W' : World} {base : Nat} {A : Option Addr} {c : Nat} {ids : List Int} (h : RowI W base A c ids) (hb : Below W.heap.size W W') : RowI W' base A c ids := h.step (fun k _ hl => hb.block k hl) (Nat.le_refl _)
theorem nb_161 (g : Nat) (fl : Bool) (fs : List S30) (ds : List DF) (hB : Backs fs ds) (w : World) (hF : FieldsC 110 (.pointer (some ⟨g, 0, none⟩)) w ds) (h0 : w.cell? ⟨g, 1, none⟩ = some (.bool fl)) :
 Calls Tryz.prog 98 #[.iface 161 (.pointer (some ⟨g, 0, none⟩))] w fun e w' => (∃ A2 c2, e = .returned (.agg #[.int .i64 17, .int .i64 0, .bool false, .int .i64 0, .int .i64 0, .int .i64 0, .string ⟨#[]⟩, .bool fl, .slice none 0 0, .slice A2 fs.length c2]) ∧ RowB w' w.heap.size A2 c2 fs) ∧ Below w.heap.size w w' := by
 have HF := Aside0.mk (And.intro hF hB)
 clear hF hB
 go_enter Tryz.func98, Tryz.ntmps98
 go_upto_region 28 with fail
 refine wp_at ?_
 intro w1 hw1
 have b1 : Below w.heap.size w w1 := by rw [hw1]; repeat (first | exact Below.refl _ _ | apply b1_ | apply b2_ | apply b3_)
 have kB : w1.heap[w.heap.size]? = some (.cells #[.int .i64 0, .int .i64 0, .bool false, .int .i64 0, .int .i64 0, .int .i64 0, .string ⟨#[]⟩, .bool false, .slice none 0 0, .slice none 0 0] 28 (0, 0)) := by rw [hw1]; exact blk_new _ _
 clear hw1
 have x0 : w1.cell? ⟨g, 1, none⟩ = some (.bool fl) := pw_cell_below b1 h0
 have H0 := Aside0.mk (h0)
 clear h0
 refine sc 9 (fun w' => Below w.heap.size w w' ∧ w'.cell? ⟨g, 1, none⟩ = some (.bool fl)) (fun hk0 w2 hs2 hb => ?_)
 have kB2 := blk_below kB hb
 clear b1 kB hb x0
 refine pu 0 58 1 ?_
 refine pu 1 59 3 ?_
 refine pu 2 60 7 ?_
 refine ta 3 61 15 ?_
 refine pu 4 62 31 ?_
 refine ca 5 63 63 Tryz.func110 #[.pointer (some ⟨g, 0, none⟩)] hk0 hs2 (HF.out.1 w2 hs2.1) (fun e w3 hR hs3 hb3 => ?_)
 obtain ⟨A, c, ok, rfl, hR⟩ := hR
 refine ⟨_, rfl, no 63 ?_⟩
 have kB3 := blk_below kB2 hb3
 refine ca 6 64 127 Tryz.func48 #[.slice A ds.length c] hk0 hs3 (HF.out.2 w3 A c ok hR) (fun e w4 hR2 hs4 hb4 => ?_)
 obtain ⟨A2, c2, rfl, hR2⟩ := hR2
 refine ⟨_, rfl, no 64 ?_⟩
 have kB4 := blk_below kB3 hb4
 have HK3 := Aside0.mk kB3
 clear hR hs2 hs3 hb3 hb4 kB2 kB3
 refine pu 7 65 255 ?_
 have hbs := below_setRow hs4.1 (Nat.le_refl _) #[.int .i64 17, .int .i64 0, .bool false, .int .i64 0, .int .i64 0, .int .i64 0, .string ⟨#[]⟩, .bool fl, .slice none 0 0, .slice A2 fs.length c2]
 refine rdy [8] (sb 8 511 w.heap.size #[.int .i64 17, .int .i64 0, .bool false, .int .i64 0, .int .i64 0, .int .i64 0, .string ⟨#[]⟩, .bool fl, .slice none 0 0, .slice A2 fs.length c2] kB4 (by kernel_rfl) rfl (one28 _ _ _ _ _ _ _ _ _ _ _ _ _ _) ⟨hbs, pw_cell_below hbs H0.out⟩ ?_ rn)
 refine done_ (by kernel_rfl) ?_
 have hR := setRow_heap _ _ _ #[.int .i64 17, .int .i64 0, .bool false, .int .i64 0, .int .i64 0, .int .i64 0, .string ⟨#[]⟩, .bool fl, .slice none 0 0, .slice A2 fs.length c2] _ _ kB4
 have hr : RowB (w4.setRow w.heap.size #[.int .i64 17, .int .i64 0, .bool false, .int .i64 0, .int .i64 0, .int .i64 0, .string ⟨#[]⟩, .bool fl, .slice none 0 0, .slice A2 fs.length c2]) w.heap.size A2 c2 fs := hR2.step (fun k hk _ => setRow_other _ _ _ _ (by have := blk_lt HK3.out; omega)) (by have := blk_lt HK3.out; omega)
 obtain ⟨w9, hw9⟩ : ∃ w9, w9 = w4.setRow w.heap.size #[.int .i64 17, .int .i64 0, .bool false, .int .i64 0, .int .i64 0, .int .i64 0, .string ⟨#[]⟩, .bool fl, .slice none 0 0, .slice A2 fs.length c2] := ⟨_, rfl⟩
 rw [← hw9] at hbs hR hr ⊢
 clear hw9
 obtain ⟨z0, z1, z2, z3, z4, z5, z6, z7, z8, z9⟩ := cb10_ hR
 have HR := Aside0.mk (And.intro hbs hr)
 clear hbs hR hr
 go_wp2
 try simp only [Exit.inBlock, Exit.then]
 refine bodyPost_ret (v := .agg #[.int .i64 17, .int .i64 0, .bool false, .int .i64 0, .int .i64 0, .int .i64 0, .string ⟨#[]⟩, .bool fl, .slice none 0 0, .slice A2 fs.length c2]) (by simp [results, Tryz.results98, go_sem, z0, z1, z2, z3, z4, z5, z6, z7, z8, z9]) rfl ⟨⟨A2, c2, rfl, HR.out.2⟩, HR.out.1⟩
theorem len114 (g : Nat) (n : Int) (w : World) (h : w.cell? ⟨g, 0, none⟩ = some (.int .i32 n)) : Calls Tryz.prog 114 #[.pointer (some ⟨g, 0, none⟩)] w fun e w' => e = .returned (.int .i32 n) ∧ Below w.heap.size w w' := by
 go_enter Tryz.func114, Tryz.ntmps114
 go_wp2
 go_ret
 exact ⟨rfl, bl⟩
theorem nb_158 (g : Nat) (n : Int) (fs : List S30) (ds : List DF) (hn : wrap64 n = n) (hB : Backs fs ds) (w : World) (hF : FieldsC 115 (.pointer (some ⟨g, 0, none⟩)) w ds) (h0 : w.cell? ⟨g, 0, none⟩ = some (.int .i32 n)) :
 Calls Tryz.prog 98 #[.iface 158 (.pointer (some ⟨g, 0, none⟩))] w fun e w' => (∃ A2 c2, e = .returned (.agg #[.int .i64 16, .int .i64 n, .bool false, .int .i64 0, .int .i64 0, .int .i64 0, .string ⟨#[]⟩, .bool false, .slice none 0 0, .slice A2 fs.length c2]) ∧ RowB w' w.heap.size A2 c2 fs) ∧ Below w.heap.size w w' := by
 have HF := Aside0.mk (And.intro hF (And.intro hB h0))
 clear hF hB h0
 go_enter Tryz.func98, Tryz.ntmps98
 go_wp2_with (go_at_call 114; fail)
 refine calls_at ?_
 intro w1 hw1
 have b1 : Below w.heap.size w w1 := by rw [hw1]; repeat (first | exact Below.refl _ _ | apply b1_ | apply b2_ | apply b3_)
 have kB : w1.heap[w.heap.size]? = some (.cells #[.int .i64 0, .int .i64 0, .bool false, .int .i64 0, .int .i64 0, .int .i64 0, .string ⟨#[]⟩, .bool false, .slice none 0 0, .slice none 0 0] 28 (0, 0)) := by rw [hw1]; exact blk_new _ _
 clear hw1
 refine (len114 g n w1 (pw_cell_below b1 HF.out.2.2)).mono ?_
 rintro e w5 ⟨rfl, hb5⟩
 have H5 := Aside0.mk (And.intro (below_step b1 hb5) (blk_below kB hb5))
 clear b1 kB hb5
 go_wp2_with (go_at_call 115; fail)
 refine (HF.out.1 w5 H5.out.1).mono ?_
 rintro e w2 ⟨⟨A, c, ok, rfl, hR⟩, hb2⟩
 have HR := Aside0.mk (And.intro hR (And.intro (below_step H5.out.1 hb2) (blk_below H5.out.2 hb2)))
 clear hR hb2
 go_wp2_with (go_at_call 48; fail)
 refine (HF.out.2.1 w2 A c ok HR.out.1).mono ?_
 rintro e w3 ⟨⟨A2, c2, rfl, hR2⟩, hb3⟩
 have HK := Aside0.mk (blk_below HR.out.2.2 hb3)
 have HL := Aside0.mk (blk_lt HR.out.2.2)
 have HW := Aside0.mk (And.intro (below_step HR.out.2.1 hb3) hR2)
 clear hR2 hb3
 obtain ⟨z0, z1, z2, z3, z4, z5, z6, z7, z8, z9⟩ := cb10_ HK.out
 obtain ⟨f0, f1, f2, f3, f4, f5, f6, f7, f8, f9⟩ := fb10_ HK.out
 go_wp2
 have hp := put10_row HK.out (.int .i64 16) (.int .i64 n) (.bool false) (.int .i64 0) (.int .i64 0) (.int .i64 0) (.string ⟨#[]⟩) (.bool false) (.slice none 0 0) (.slice A2 fs.length c2)
 have hq := put10_below (v0 := .int .i64 16) (v1 := .int .i64 n) (v2 := .bool false) (v3 := .int .i64 0) (v4 := .int .i64 0) (v5 := .int .i64 0) (v6 := .string ⟨#[]⟩) (v7 := .bool false) (v8 := .slice none 0 0) (v9 := .slice A2 fs.length c2) HW.out.1 (Nat.le_refl _)
 have hr : RowB (put10 w3 w.heap.size (.int .i64 16) (.int .i64 n) (.bool false) (.int .i64 0) (.int .i64 0) (.int .i64 0) (.string ⟨#[]⟩) (.bool false) (.slice none 0 0) (.slice A2 fs.length c2)) w.heap.size A2 c2 fs := HW.out.2.step (fun k hk _ => put10_other _ _ _ _ _ _ _ _ _ _ _ _ k (by have := HW.out.2; have := HL.out; omega)) (by have := HL.out; omega)
 refine show bodyPost Tryz.prog Tryz.f98 _ Exit.ret _ (put10 w3 w.heap.size (.int .i64 16) (.int .i64 n) (.bool false) (.int .i64 0) (.int .i64 0) (.int .i64 0) (.string ⟨#[]⟩) (.bool false) (.slice none 0 0) (.slice A2 fs.length c2)) from ?_
 generalize put10 w3 w.heap.size (.int .i64 16) (.int .i64 n) (.bool false) (.int .i64 0) (.int .i64 0) (.int .i64 0) (.string ⟨#[]⟩) (.bool false) (.slice none 0 0) (.slice A2 fs.length c2) = W at hp hq hr ⊢
 obtain ⟨y0, y1, y2, y3, y4, y5, y6, y7, y8, y9⟩ := cb10_ hp
 refine bodyPost_ret (v := .agg #[.int .i64 16, .int .i64 n, .bool false, .int .i64 0, .int .i64 0, .int .i64 0, .string ⟨#[]⟩, .bool false, .slice none 0 0, .slice A2 fs.length c2]) (by simp [results, Tryz.results98, go_sem, y0, y1, y2, y3, y4, y5, y6, y7, y8, y9]) rfl ⟨⟨A2, c2, rfl, hr⟩, hq⟩
theorem nb_224 (g : Nat) (B : Option Addr) (m : Nat) (ids : List Int) (fs : List S30) (ds : List DF) (hB : Backs fs ds) (w : World) (hF : FieldsC 119 (.pointer (some ⟨g, 0, none⟩)) w ds)
 (hC : ∀ w1, Below w.heap.size w w1 → Calls Tryz.prog 117 #[.slice B ids.length m] w1 fun e w' => (∃ A3 c3, e = .returned (.slice A3 ids.length c3) ∧ RowI w' w1.heap.size A3 c3 ids) ∧ Below w1.heap.size w1 w') (h0 : w.cell? ⟨g, 1, none⟩ = some (.slice B ids.length m)) :
 Calls Tryz.prog 98 #[.iface 224 (.pointer (some ⟨g, 0, none⟩))] w fun e w' => (∃ A2 c2 A3 c3, e = .returned (.agg #[.int .i64 14, .int .i64 0, .bool false, .int .i64 0, .int .i64 0, .int .i64 0, .string ⟨#[]⟩, .bool false, .slice A3 ids.length c3, .slice A2 fs.length c2]) ∧ RowI w' w.heap.size A3 c3 ids ∧ RowB w' w.heap.size A2 c2 fs) ∧ Below w.heap.size w w' := by
 have HF := Aside0.mk (And.intro hF (And.intro hB hC))
 clear hF hB hC
 go_enter Tryz.func98, Tryz.ntmps98
 go_upto_region 49 with fail
 refine wp_at ?_
 intro w1 hw1
 have b1 : Below w.heap.size w w1 := by rw [hw1]; repeat (first | exact Below.refl _ _ | apply b1_ | apply b2_ | apply b3_)
 have kB : w1.heap[w.heap.size]? = some (.cells #[.int .i64 0, .int .i64 0, .bool false, .int .i64 0, .int .i64 0, .int .i64 0, .string ⟨#[]⟩, .bool false, .slice none 0 0, .slice none 0 0] 28 (0, 0)) := by rw [hw1]; exact blk_new _ _
 clear hw1
 have x0 : w1.cell? ⟨g, 1, none⟩ = some (.slice B ids.length m) := pw_cell_below b1 h0
 have H0 := Aside0.mk (h0)
 clear h0
 refine sc 12 (fun w' => Below w.heap.size w w' ∧ w'.cell? ⟨g, 1, none⟩ = some (.slice B ids.length m)) (fun hk0 w2 hs2 hb => ?_)
 have kB2 := blk_below kB hb
 clear b1 kB hb x0
 refine pu 0 116 1 ?_
 refine pu 1 117 3 ?_
 refine pu 2 118 7 ?_
 refine pu 5 121 39 ?_
 refine pu 6 122 103 ?_
 refine pu 7 123 231 ?_
 refine ca 3 119 239 Tryz.func118 #[.pointer (some ⟨g, 0, none⟩)] hk0 hs2 (codes118 g B ids.length m w2 hs2.2) (fun e w3 hR hs3 hb3 => ?_)
 subst hR
 refine ⟨_, rfl, no 119 ?_⟩
 have kB3 := blk_below kB2 hb3
 refine ca 4 120 255 Tryz.func117 #[.slice B ids.length m] hk0 hs3 (HF.out.2.2 w3 hs3.1) (fun e w4 hR2 hs4 hb4 => ?_)
 obtain ⟨A3, c3, rfl, hI⟩ := hR2
 refine ⟨_, rfl, no 120 ?_⟩
 have kB4 := blk_below kB3 hb4
 refine ca 8 124 511 Tryz.func119 #[.pointer (some ⟨g, 0, none⟩)] hk0 hs4 (HF.out.1 w4 hs4.1) (fun e w5 hR hs5 hb5 => ?_)
 obtain ⟨A, c, ok, rfl, hR⟩ := hR
 refine ⟨_, rfl, no 124 ?_⟩
 have kB5 := blk_below kB4 hb5
 refine ca 9 125 1023 Tryz.func48 #[.slice A ds.length c] hk0 hs5 (HF.out.2.1 w5 A c ok hR) (fun e w6 hR2 hs6 hb6 => ?_)
 obtain ⟨A2, c2, rfl, hR2⟩ := hR2
 refine ⟨_, rfl, no 125 ?_⟩
 have kB6 := blk_below kB5 hb6
 have hI6 := (hI.below hb5).below hb6
 have HK3 := Aside0.mk (And.intro kB3 kB5)
 clear hR hs2 hs3 hs4 hs5 hb3 hb4 hb5 hb6 kB2 kB3 kB4 kB5 hI
 refine pu 10 126 2047 ?_
 have hbs := below_setRow hs6.1 (Nat.le_refl _) #[.int .i64 14, .int .i64 0, .bool false, .int .i64 0, .int .i64 0, .int .i64 0, .string ⟨#[]⟩, .bool false, .slice A3 ids.length c3, .slice A2 fs.length c2]
 refine rdy [11] (sb 11 4095 w.heap.size #[.int .i64 14, .int .i64 0, .bool false, .int .i64 0, .int .i64 0, .int .i64 0, .string ⟨#[]⟩, .bool false, .slice A3 ids.length c3, .slice A2 fs.length c2] kB6 (by kernel_rfl) rfl (one28 _ _ _ _ _ _ _ _ _ _ _ _ _ _) ⟨hbs, pw_cell_below hbs H0.out⟩ ?_ rn)
 refine done_ (by kernel_rfl) ?_
 have hR := setRow_heap _ _ _ #[.int .i64 14, .int .i64 0, .bool false, .int .i64 0, .int .i64 0, .int .i64 0, .string ⟨#[]⟩, .bool false, .slice A3 ids.length c3, .slice A2 fs.length c2] _ _ kB6
 have hr := And.intro (show RowI (w6.setRow w.heap.size #[.int .i64 14, .int .i64 0, .bool false, .int .i64 0, .int .i64 0, .int .i64 0, .string ⟨#[]⟩, .bool false, .slice A3 ids.length c3, .slice A2 fs.length c2]) w.heap.size A3 c3 ids from hI6.step (fun k hk _ => setRow_other _ _ _ _ (by have := blk_lt HK3.out.1; omega)) (by have := blk_lt HK3.out.1; omega)) (show RowB (w6.setRow w.heap.size #[.int .i64 14, .int .i64 0, .bool false, .int .i64 0, .int .i64 0, .int .i64 0, .string ⟨#[]⟩, .bool false, .slice A3 ids.length c3, .slice A2 fs.length c2]) w.heap.size A2 c2 fs from hR2.step (fun k hk _ => setRow_other _ _ _ _ (by have := blk_lt HK3.out.2; omega)) (by have := blk_lt HK3.out.2; omega))
 obtain ⟨w9, hw9⟩ : ∃ w9, w9 = w6.setRow w.heap.size #[.int .i64 14, .int .i64 0, .bool false, .int .i64 0, .int .i64 0, .int .i64 0, .string ⟨#[]⟩, .bool false, .slice A3 ids.length c3, .slice A2 fs.length c2] := ⟨_, rfl⟩
 rw [← hw9] at hbs hR hr ⊢
 clear hw9
 obtain ⟨z0, z1, z2, z3, z4, z5, z6, z7, z8, z9⟩ := cb10_ hR
 have HR := Aside0.mk (And.intro hbs hr)
 clear hbs hR hr
 go_wp2
 try simp only [Exit.inBlock, Exit.then]
 refine bodyPost_ret (v := .agg #[.int .i64 14, .int .i64 0, .bool false, .int .i64 0, .int .i64 0, .int .i64 0, .string ⟨#[]⟩, .bool false, .slice A3 ids.length c3, .slice A2 fs.length c2]) (by simp [results, Tryz.results98, go_sem, z0, z1, z2, z3, z4, z5, z6, z7, z8, z9]) rfl ⟨⟨A2, c2, A3, c3, rfl, HR.out.2.1, HR.out.2.2⟩, HR.out.1⟩
theorem nb_226 (g : Nat) (B : Option Addr) (m : Nat) (ids : List Int) (fs : List S30) (ds : List DF) (hB : Backs fs ds) (w : World) (hF : FieldsC 119 (.pointer (some ⟨g, 0, none⟩)) w ds)
 (hC : ∀ w1, Below w.heap.size w w1 → Calls Tryz.prog 117 #[.slice B ids.length m] w1 fun e w' => (∃ A3 c3, e = .returned (.slice A3 ids.length c3) ∧ RowI w' w1.heap.size A3 c3 ids) ∧ Below w1.heap.size w1 w') (h0 : w.cell? ⟨g, 1, none⟩ = some (.slice B ids.length m)) :
 Calls Tryz.prog 98 #[.iface 226 (.pointer (some ⟨g, 0, none⟩))] w fun e w' => (∃ A2 c2 A3 c3, e = .returned (.agg #[.int .i64 14, .int .i64 0, .bool false, .int .i64 1, .int .i64 0, .int .i64 0, .string ⟨#[]⟩, .bool false, .slice A3 ids.length c3, .slice A2 fs.length c2]) ∧ RowI w' w.heap.size A3 c3 ids ∧ RowB w' w.heap.size A2 c2 fs) ∧ Below w.heap.size w w' := by
 have HF := Aside0.mk (And.intro hF (And.intro hB hC))
 clear hF hB hC
 go_enter Tryz.func98, Tryz.ntmps98
 go_upto_region 52 with fail
 refine wp_at ?_
 intro w1 hw1
 have b1 : Below w.heap.size w w1 := by rw [hw1]; repeat (first | exact Below.refl _ _ | apply b1_ | apply b2_ | apply b3_)
 have kB : w1.heap[w.heap.size]? = some (.cells #[.int .i64 0, .int .i64 0, .bool false, .int .i64 0, .int .i64 0, .int .i64 0, .string ⟨#[]⟩, .bool false, .slice none 0 0, .slice none 0 0] 28 (0, 0)) := by rw [hw1]; exact blk_new _ _
 clear hw1
 have x0 : w1.cell? ⟨g, 1, none⟩ = some (.slice B ids.length m) := pw_cell_below b1 h0
 have H0 := Aside0.mk (h0)
 clear h0
 refine sc 12 (fun w' => Below w.heap.size w w' ∧ w'.cell? ⟨g, 1, none⟩ = some (.slice B ids.length m)) (fun hk0 w2 hs2 hb => ?_)
 have kB2 := blk_below kB hb
 clear b1 kB hb x0
 refine pu 0 130 1 ?_
 refine pu 1 131 3 ?_
 refine pu 2 132 7 ?_
 refine pu 5 135 39 ?_
 refine pu 6 136 103 ?_
 refine pu 7 137 231 ?_
 refine ca 3 133 239 Tryz.func118 #[.pointer (some ⟨g, 0, none⟩)] hk0 hs2 (codes118 g B ids.length m w2 hs2.2) (fun e w3 hR hs3 hb3 => ?_)
 subst hR
 refine ⟨_, rfl, no 133 ?_⟩
 have kB3 := blk_below kB2 hb3
 refine ca 4 134 255 Tryz.func117 #[.slice B ids.length m] hk0 hs3 (HF.out.2.2 w3 hs3.1) (fun e w4 hR2 hs4 hb4 => ?_)
 obtain ⟨A3, c3, rfl, hI⟩ := hR2
 refine ⟨_, rfl, no 134 ?_⟩
 have kB4 := blk_below kB3 hb4
 refine ca 8 138 511 Tryz.func119 #[.pointer (some ⟨g, 0, none⟩)] hk0 hs4 (HF.out.1 w4 hs4.1) (fun e w5 hR hs5 hb5 => ?_)
 obtain ⟨A, c, ok, rfl, hR⟩ := hR
 refine ⟨_, rfl, no 138 ?_⟩
 have kB5 := blk_below kB4 hb5
 refine ca 9 139 1023 Tryz.func48 #[.slice A ds.length c] hk0 hs5 (HF.out.2.1 w5 A c ok hR) (fun e w6 hR2 hs6 hb6 => ?_)
 obtain ⟨A2, c2, rfl, hR2⟩ := hR2
 refine ⟨_, rfl, no 139 ?_⟩
 have kB6 := blk_below kB5 hb6
 have hI6 := (hI.below hb5).below hb6
 have HK3 := Aside0.mk (And.intro kB3 kB5)
 clear hR hs2 hs3 hs4 hs5 hb3 hb4 hb5 hb6 kB2 kB3 kB4 kB5 hI
 refine pu 10 140 2047 ?_
 have hbs := below_setRow hs6.1 (Nat.le_refl _) #[.int .i64 14, .int .i64 0, .bool false, .int .i64 1, .int .i64 0, .int .i64 0, .string ⟨#[]⟩, .bool false, .slice A3 ids.length c3, .slice A2 fs.length c2]
 refine rdy [11] (sb 11 4095 w.heap.size #[.int .i64 14, .int .i64 0, .bool false, .int .i64 1, .int .i64 0, .int .i64 0, .string ⟨#[]⟩, .bool false, .slice A3 ids.length c3, .slice A2 fs.length c2] kB6 (by kernel_rfl) rfl (one28 _ _ _ _ _ _ _ _ _ _ _ _ _ _) ⟨hbs, pw_cell_below hbs H0.out⟩ ?_ rn)
 refine done_ (by kernel_rfl) ?_
 have hR := setRow_heap _ _ _ #[.int .i64 14, .int .i64 0, .bool false, .int .i64 1, .int .i64 0, .int .i64 0, .string ⟨#[]⟩, .bool false, .slice A3 ids.length c3, .slice A2 fs.length c2] _ _ kB6
 have hr := And.intro (show RowI (w6.setRow w.heap.size #[.int .i64 14, .int .i64 0, .bool false, .int .i64 1, .int .i64 0, .int .i64 0, .string ⟨#[]⟩, .bool false, .slice A3 ids.length c3, .slice A2 fs.length c2]) w.heap.size A3 c3 ids from hI6.step (fun k hk _ => setRow_other _ _ _ _ (by have := blk_lt HK3.out.1; omega)) (by have := blk_lt HK3.out.1; omega)) (show RowB (w6.setRow w.heap.size #[.int .i64 14, .int .i64 0, .bool false, .int .i64 1, .int .i64 0, .int .i64 0, .string ⟨#[]⟩, .bool false, .slice A3 ids.length c3, .slice A2 fs.length c2]) w.heap.size A2 c2 fs from hR2.step (fun k hk _ => setRow_other _ _ _ _ (by have := blk_lt HK3.out.2; omega)) (by have := blk_lt HK3.out.2; omega))
 obtain ⟨w9, hw9⟩ : ∃ w9, w9 = w6.setRow w.heap.size #[.int .i64 14, .int .i64 0, .bool false, .int .i64 1, .int .i64 0, .int .i64 0, .string ⟨#[]⟩, .bool false, .slice A3 ids.length c3, .slice A2 fs.length c2] := ⟨_, rfl⟩
 rw [← hw9] at hbs hR hr ⊢
 clear hw9
 obtain ⟨z0, z1, z2, z3, z4, z5, z6, z7, z8, z9⟩ := cb10_ hR
 have HR := Aside0.mk (And.intro hbs hr)
 clear hbs hR hr
 go_wp2
 try simp only [Exit.inBlock, Exit.then]
 refine bodyPost_ret (v := .agg #[.int .i64 14, .int .i64 0, .bool false, .int .i64 1, .int .i64 0, .int .i64 0, .string ⟨#[]⟩, .bool false, .slice A3 ids.length c3, .slice A2 fs.length c2]) (by simp [results, Tryz.results98, go_sem, z0, z1, z2, z3, z4, z5, z6, z7, z8, z9]) rfl ⟨⟨A2, c2, A3, c3, rfl, HR.out.2.1, HR.out.2.2⟩, HR.out.1⟩
theorem nb_229 (g : Nat) (fl : Bool) (x y : Value) (I V : S28) (di dv : DT) (ok : Nat → Prop) (hi : BkT I di) (hv : BkT V dv) (w : World) (hx : DTIn w ok di x) (hy : DTIn w ok dv y) (h0 : w.cell? ⟨g, 2, none⟩ = some (.bool fl)) (h1 : w.cell? ⟨g, 0, none⟩ = some x) (h2 : w.cell? ⟨g, 1, none⟩ = some y) :
 Calls Tryz.prog 98 #[.iface 229 (.pointer (some ⟨g, 0, none⟩))] w fun e w' => (∃ A2 c2, e = .returned (.agg #[.int .i64 27, .int .i64 0, .bool false, .int .i64 0, .int .i64 0, .int .i64 0, .string ⟨#[]⟩, .bool fl, .slice none 0 0, .slice A2 2 c2]) ∧ RowB w' w.heap.size A2 c2 [⟨emp, false, I, []⟩, ⟨emp, false, V, []⟩]) ∧ Below w.heap.size w w' := by
 obtain ⟨i0, i1, i2, i3, i4, i5, i6, i7, i8, i9⟩ := I
 obtain ⟨v0, v1, v2, v3, v4, v5, v6, v7, v8, v9⟩ := V
 obtain ⟨qx, ax, rfl⟩ := hx.form
 obtain ⟨qy, ay, rfl⟩ := hy.form
 have HF := Aside0.mk (And.intro hi (And.intro hv (And.intro hx hy)))
 clear hi hv hx hy
 go_enter Tryz.func98, Tryz.ntmps98
 go_upto_region 58 with fail
 refine wp_at ?_
 intro w1 hw1
 have b1 : Below w.heap.size w w1 := by rw [hw1]; repeat (first | exact Below.refl _ _ | apply b1_ | apply b2_ | apply b3_)
 have kB : w1.heap[w.heap.size]? = some (.cells #[.int .i64 0, .int .i64 0, .bool false, .int .i64 0, .int .i64 0, .int .i64 0, .string ⟨#[]⟩, .bool false, .slice none 0 0, .slice none 0 0] 28 (0, 0)) := by rw [hw1]; exact blk_new _ _
 clear hw1
 have x0 : w1.cell? ⟨g, 2, none⟩ = some (.bool fl) := pw_cell_below b1 h0
 have x1 : w1.cell? ⟨g, 0, none⟩ = some (.iface qx (.pointer (some ax))) := pw_cell_below b1 h1
 have x2 : w1.cell? ⟨g, 1, none⟩ = some (.iface qy (.pointer (some ay))) := pw_cell_below b1 h2
 have H0 := Aside0.mk (And.intro h0 (And.intro h1 h2))
 clear h0 h1 h2
 refine sc 19 (fun w' => Below w.heap.size w w' ∧ w'.cell? ⟨g, 2, none⟩ = some (.bool fl) ∧ w'.cell? ⟨g, 0, none⟩ = some (.iface qx (.pointer (some ax))) ∧ w'.cell? ⟨g, 1, none⟩ = some (.iface qy (.pointer (some ay)))) (fun hk0 w2 hs2 hb => ?_)
 have kB2 := blk_below kB hb
 clear b1 kB hb x0 x1 x2
 refine pu 0 151 1 ?_
 refine pu 1 152 3 ?_
 refine pu 2 153 7 ?_
 refine ta 3 154 15 ?_
 refine pu 4 155 31 ?_
 refine pu 5 156 63 ?_
 refine pu 6 157 127 ?_
 refine ta 7 158 255 ?_
 refine pu 10 161 1279 ?_
 refine pu 11 162 3327 ?_
 refine pu 12 163 7423 ?_
 refine ta 13 164 15615 ?_
 refine ca 8 159 15871 Tryz.func79 #[.iface qx (.pointer (some ax))] hk0 hs2 (HF.out.1 w2 ok _ (HF.out.2.2.1.below hs2.1)) (fun e w3 hR hs3 hb3 => ?_)
 obtain ⟨cs, rfl, hI⟩ := hR
 have hI0 := hI.below (Below.refl _ _)
 obtain ⟨Ai, Ci, Bi, Di, rfl, _⟩ := hI
 refine ⟨_, rfl, no 159 ?_⟩
 have kB3 := blk_below kB2 hb3
 refine pu 9 160 16383 ?_
 refine ca 14 165 32767 Tryz.func79 #[.iface qy (.pointer (some ay))] hk0 hs3 (HF.out.2.1 w3 ok _ (HF.out.2.2.2.below hs3.1)) (fun e w4 hR hs4 hb4 => ?_)
 obtain ⟨cs, rfl, hV⟩ := hR
 have hV0 := hV.below (Below.refl _ _)
 obtain ⟨Av, Cv, Bv, Dv, rfl, _⟩ := hV
 refine ⟨_, rfl, no 165 ?_⟩
 have kB4 := blk_below kB3 hb4
 have hI4 := hI0.below hb4
 refine pu 15 166 65535 ?_
 refine rdy [16] (rl 16 167 131071 (.slice (some ⟨w4.heap.size, 0, none⟩) 2 2) (.cells #[.string ⟨#[]⟩, .bool false, .int .i64 i0, .int .i64 i1, .bool i2, .int .i64 i3, .int .i64 i4, .int .i64 i5, .string i6, .bool i7, .slice Ai i8.length Ci, .slice Bi i9.length Di, .slice none 0 0, .string ⟨#[]⟩, .bool false, .int .i64 v0, .int .i64 v1, .bool v2, .int .i64 v3, .int .i64 v4, .int .i64 v5, .string v6, .bool v7, .slice Av v8.length Cv, .slice Bv v9.length Dv, .slice none 0 0] 30 (0, 0)) hk0 hs4 (fun w5 hz5 hg5 hs5 hb5 => no 167 ?_) rn)
 have kB5 := blk_below kB4 hb5
 have HX := Aside0.mk (And.intro (hI4.below hb5) (And.intro (hV0.below hb5) (And.intro (blk_lt kB2) (And.intro (blk_lt kB3) (And.intro (blk_lt kB4) hg5)))))
 clear hs2 hs3 hs4 hb3 hb4 hb5 hI0 hI4 hV0 hg5 hz5 kB2 kB3 kB4
 refine pu 17 168 262143 ?_
 have hbs := below_setRow hs5.1 (Nat.le_refl _) #[.int .i64 27, .int .i64 0, .bool false, .int .i64 0, .int .i64 0, .int .i64 0, .string ⟨#[]⟩, .bool fl, .slice none 0 0, .slice (some ⟨w4.heap.size, 0, none⟩) 2 2]
 refine rdy [18] (sb 18 524287 w.heap.size #[.int .i64 27, .int .i64 0, .bool false, .int .i64 0, .int .i64 0, .int .i64 0, .string ⟨#[]⟩, .bool fl, .slice none 0 0, .slice (some ⟨w4.heap.size, 0, none⟩) 2 2] kB5 (by kernel_rfl) rfl (one28 _ _ _ _ _ _ _ _ _ _ _ _ _ _) ⟨hbs, pw_cell_below hbs H0.out.1, pw_cell_below hbs H0.out.2.1, pw_cell_below hbs H0.out.2.2⟩ ?_ rn)
 refine done_ (by kernel_rfl) ?_
 have hR := setRow_heap _ _ _ #[.int .i64 27, .int .i64 0, .bool false, .int .i64 0, .int .i64 0, .int .i64 0, .string ⟨#[]⟩, .bool fl, .slice none 0 0, .slice (some ⟨w4.heap.size, 0, none⟩) 2 2] _ _ kB5
 have hr : RowB (w5.setRow w.heap.size #[.int .i64 27, .int .i64 0, .bool false, .int .i64 0, .int .i64 0, .int .i64 0, .string ⟨#[]⟩, .bool fl, .slice none 0 0, .slice (some ⟨w4.heap.size, 0, none⟩) 2 2]) w.heap.size (some ⟨w4.heap.size, 0, none⟩) 2 [⟨emp, false, ⟨i0, i1, i2, i3, i4, i5, i6, i7, i8, i9⟩, []⟩, ⟨emp, false, ⟨v0, v1, v2, v3, v4, v5, v6, v7, v8, v9⟩, []⟩] := by
  obtain ⟨q1, q2, q3, q4, q5, q6⟩ := HX.out
  have st : ∀ k, k ≠ w.heap.size → (w5.setRow w.heap.size #[.int .i64 27, .int .i64 0, .bool false, .int .i64 0, .int .i64 0, .int .i64 0, .string ⟨#[]⟩, .bool fl, .slice none 0 0, .slice (some ⟨w4.heap.size, 0, none⟩) 2 2]).heap[k]? = w5.heap[k]? := fun k hk => setRow_other _ _ _ _ (by omega)
  refine ⟨Nat.le_refl _, by simp, fun _ => ⟨w4.heap.size, _, rfl, by omega, (st _ (by omega)).trans q6, ?_⟩⟩
  refine ⟨_, _, rfl, ⟨rfl, _, rfl, BTIn.step (fun k q cells hk _ _ hc => ⟨(st k (by omega)).trans hc, by omega⟩) q1⟩, _, [], rfl, ⟨rfl, _, rfl, BTIn.step (fun k q cells hk _ _ hc => ⟨(st k (by omega)).trans hc, by omega⟩) q2⟩, trivial⟩
 obtain ⟨w9, hw9⟩ : ∃ w9, w9 = w5.setRow w.heap.size #[.int .i64 27, .int .i64 0, .bool false, .int .i64 0, .int .i64 0, .int .i64 0, .string ⟨#[]⟩, .bool fl, .slice none 0 0, .slice (some ⟨w4.heap.size, 0, none⟩) 2 2] := ⟨_, rfl⟩
 rw [← hw9] at hbs hR hr ⊢
 clear hw9
 obtain ⟨z0, z1, z2, z3, z4, z5, z6, z7, z8, z9⟩ := cb10_ hR
 have HR := Aside0.mk (And.intro hbs hr)
 clear hbs hR hr
 go_wp2
 try simp only [Exit.inBlock, Exit.then]
 refine bodyPost_ret (v := .agg #[.int .i64 27, .int .i64 0, .bool false, .int .i64 0, .int .i64 0, .int .i64 0, .string ⟨#[]⟩, .bool fl, .slice none 0 0, .slice (some ⟨w4.heap.size, 0, none⟩) 2 2]) (by simp [results, Tryz.results98, go_sem, z0, z1, z2, z3, z4, z5, z6, z7, z8, z9]) rfl ⟨⟨_, _, rfl, HR.out.2⟩, HR.out.1⟩
theorem row_one {W : World} {ok : Nat → Prop} {F : Nat} {n : ByteArray} {t : DT} {b : Bool} {x : Value} (h : W.heap[F]? = some (.cells #[.string n, x, .bool b, .slice none 0 0, .slice none 0 0] 61 (0, 0))) (hx : DTIn W ok t x) : RowAt W ok (some ⟨F, 0, none⟩) [.mk n t b] := fun _ => ⟨_, rfl, fun j hj => by
 obtain rfl : j = 0 := by simpa using hj
 refine ⟨_, ⟨x, rfl, hx⟩, fun i u hu => ?_⟩
 rw [add0_, blk_cell h]
 simpa using hu⟩
theorem dfs_get {W : World} {ok : Nat → Prop} : ∀ {fs : List DF} {l : List Value}, DFsIn W ok fs l → ∀ (j : Nat) (hj : j < fs.length), DFIn W ok fs[j] ((l.drop (j * 5)).take 5)
 | f :: r, l, ⟨c, rest, e, hf, hr⟩, 0, _ => by
  have := hf.len
  rw [e, Nat.zero_mul, List.drop_zero, List.take_append_of_le_length (by omega), List.take_of_length_le (by omega)]
  exact hf
 | f :: r, l, ⟨c, rest, e, hf, hr⟩, j + 1, hj => by
  have := hf.len
  have h := dfs_get hr j (by simpa using hj)
  rw [e, show (j + 1) * 5 = c.length + j * 5 by omega, ← List.drop_drop, List.drop_left]
  exact h
theorem row_of {W : World} {ok : Nat → Prop} {F : Nat} {arr : Array Value} {fs : List DF} (h : W.heap[F]? = some (.cells arr 61 (0, 0))) (hd : DFsIn W ok fs arr.toList) : RowAt W ok (some ⟨F, 0, none⟩) fs := fun _ => ⟨_, rfl, fun j hj => ⟨_, dfs_get hd j hj, fun i u hu => by
 rw [add0_, blk_cell h, ← Array.getElem?_toList]
 rw [List.getElem?_take] at hu
 split at hu
 ·rwa [List.getElem?_drop] at hu
 ·cases hu⟩⟩
theorem ef_125 (g : Nat) (n : ByteArray) (q : TypeId) (a : Addr) (b : Bool) (w : World) (h0 : w.cell? ⟨g, 0, none⟩ = some (.string n)) (h1 : w.cell? ⟨g, 1, none⟩ = some (.iface q (.pointer (some a)))) (h2 : w.cell? ⟨g, 2, none⟩ = some (.bool b)) (h3 : w.cell? ⟨g, 3, none⟩ = some (.slice none 0 0)) (h4 : w.cell? ⟨g, 4, none⟩ = some (.slice none 0 0)) : Calls Tryz.prog 125 #[.pointer (some ⟨g, 0, none⟩)] w fun e w' => e = .returned (.agg #[.string n, .iface q (.pointer (some a)), .bool b, .slice none 0 0, .slice none 0 0]) ∧ Below w.heap.size w w' := by
 have x0 : ∀ o, (w.alloc o).cell? ⟨g, 0, none⟩ = some (.string n) := fun o => pw_cell_below bl h0
 have x1 : ∀ o, (w.alloc o).cell? ⟨g, 1, none⟩ = some (.iface q (.pointer (some a))) := fun o => pw_cell_below bl h1
 have x2 : ∀ o, (w.alloc o).cell? ⟨g, 2, none⟩ = some (.bool b) := fun o => pw_cell_below bl h2
 have x3 : ∀ o, (w.alloc o).cell? ⟨g, 3, none⟩ = some (.slice none 0 0) := fun o => pw_cell_below bl h3
 have x4 : ∀ o, (w.alloc o).cell? ⟨g, 4, none⟩ = some (.slice none 0 0) := fun o => pw_cell_below bl h4
 clear h0 h1 h2 h3 h4
 go_enter Tryz.func125, Tryz.ntmps125
 go_wp2
 try simp only [Exit.inBlock, Exit.then]
 refine bodyPost_ret (v := .agg #[.string n, .iface q (.pointer (some a)), .bool b, .slice none 0 0, .slice none 0 0]) (by simp [results, Tryz.results125, go_sem]) rfl ⟨rfl, bl⟩
theorem ef_126 (g : Nat) (n : ByteArray) (q : TypeId) (a : Addr) (b : Bool) (w : World) (h0 : w.cell? ⟨g, 0, none⟩ = some (.string n)) (h1 : w.cell? ⟨g, 1, none⟩ = some (.iface q (.pointer (some a)))) (h2 : w.cell? ⟨g, 2, none⟩ = some (.bool b)) (h3 : w.cell? ⟨g, 3, none⟩ = some (.slice none 0 0)) (h4 : w.cell? ⟨g, 4, none⟩ = some (.slice none 0 0)) : Calls Tryz.prog 126 #[.pointer (some ⟨g, 0, none⟩)] w fun e w' => e = .returned (.agg #[.string n, .iface q (.pointer (some a)), .bool b, .slice none 0 0, .slice none 0 0]) ∧ Below w.heap.size w w' := by
 have x0 : ∀ o, (w.alloc o).cell? ⟨g, 0, none⟩ = some (.string n) := fun o => pw_cell_below bl h0
 have x1 : ∀ o, (w.alloc o).cell? ⟨g, 1, none⟩ = some (.iface q (.pointer (some a))) := fun o => pw_cell_below bl h1
 have x2 : ∀ o, (w.alloc o).cell? ⟨g, 2, none⟩ = some (.bool b) := fun o => pw_cell_below bl h2
 have x3 : ∀ o, (w.alloc o).cell? ⟨g, 3, none⟩ = some (.slice none 0 0) := fun o => pw_cell_below bl h3
 have x4 : ∀ o, (w.alloc o).cell? ⟨g, 4, none⟩ = some (.slice none 0 0) := fun o => pw_cell_below bl h4
 clear h0 h1 h2 h3 h4
 go_enter Tryz.func126, Tryz.ntmps126
 go_wp2
 try simp only [Exit.inBlock, Exit.then]
 refine bodyPost_ret (v := .agg #[.string n, .iface q (.pointer (some a)), .bool b, .slice none 0 0, .slice none 0 0]) (by simp [results, Tryz.results126, go_sem]) rfl ⟨rfl, bl⟩
theorem ef_127 (g : Nat) (n : ByteArray) (q : TypeId) (a : Addr) (b : Bool) (w : World) (h0 : w.cell? ⟨g, 0, none⟩ = some (.string n)) (h1 : w.cell? ⟨g, 1, none⟩ = some (.iface q (.pointer (some a)))) (h2 : w.cell? ⟨g, 2, none⟩ = some (.bool b)) (h3 : w.cell? ⟨g, 3, none⟩ = some (.slice none 0 0)) (h4 : w.cell? ⟨g, 4, none⟩ = some (.slice none 0 0)) : Calls Tryz.prog 127 #[.pointer (some ⟨g, 0, none⟩)] w fun e w' => e = .returned (.agg #[.string n, .iface q (.pointer (some a)), .bool b, .slice none 0 0, .slice none 0 0]) ∧ Below w.heap.size w w' := by
 have x0 : ∀ o, (w.alloc o).cell? ⟨g, 0, none⟩ = some (.string n) := fun o => pw_cell_below bl h0
 have x1 : ∀ o, (w.alloc o).cell? ⟨g, 1, none⟩ = some (.iface q (.pointer (some a))) := fun o => pw_cell_below bl h1
 have x2 : ∀ o, (w.alloc o).cell? ⟨g, 2, none⟩ = some (.bool b) := fun o => pw_cell_below bl h2
 have x3 : ∀ o, (w.alloc o).cell? ⟨g, 3, none⟩ = some (.slice none 0 0) := fun o => pw_cell_below bl h3
 have x4 : ∀ o, (w.alloc o).cell? ⟨g, 4, none⟩ = some (.slice none 0 0) := fun o => pw_cell_below bl h4
 clear h0 h1 h2 h3 h4
 go_enter Tryz.func127, Tryz.ntmps127
 go_wp2
 try simp only [Exit.inBlock, Exit.then]
 refine bodyPost_ret (v := .agg #[.string n, .iface q (.pointer (some a)), .bool b, .slice none 0 0, .slice none 0 0]) (by simp [results, Tryz.results127, go_sem]) rfl ⟨rfl, bl⟩
theorem ef_128 (g : Nat) (n : ByteArray) (q : TypeId) (a : Addr) (b : Bool) (w : World) (h0 : w.cell? ⟨g, 1, none⟩ = some (.string n)) (h1 : w.cell? ⟨g, 2, none⟩ = some (.iface q (.pointer (some a)))) (h2 : w.cell? ⟨g, 3, none⟩ = some (.bool b)) (h3 : w.cell? ⟨g, 4, none⟩ = some (.slice none 0 0)) (h4 : w.cell? ⟨g, 5, none⟩ = some (.slice none 0 0)) : Calls Tryz.prog 128 #[.pointer (some ⟨g, 0, none⟩)] w fun e w' => e = .returned (.agg #[.string n, .iface q (.pointer (some a)), .bool b, .slice none 0 0, .slice none 0 0]) ∧ Below w.heap.size w w' := by
 have x0 : ∀ o, (w.alloc o).cell? ⟨g, 1, none⟩ = some (.string n) := fun o => pw_cell_below bl h0
 have x1 : ∀ o, (w.alloc o).cell? ⟨g, 2, none⟩ = some (.iface q (.pointer (some a))) := fun o => pw_cell_below bl h1
 have x2 : ∀ o, (w.alloc o).cell? ⟨g, 3, none⟩ = some (.bool b) := fun o => pw_cell_below bl h2
 have x3 : ∀ o, (w.alloc o).cell? ⟨g, 4, none⟩ = some (.slice none 0 0) := fun o => pw_cell_below bl h3
 have x4 : ∀ o, (w.alloc o).cell? ⟨g, 5, none⟩ = some (.slice none 0 0) := fun o => pw_cell_below bl h4
 clear h0 h1 h2 h3 h4
 go_enter Tryz.func128, Tryz.ntmps128
 go_wp2
 try simp only [Exit.inBlock, Exit.then]
 refine bodyPost_ret (v := .agg #[.string n, .iface q (.pointer (some a)), .bool b, .slice none 0 0, .slice none 0 0]) (by simp [results, Tryz.results128, go_sem]) rfl ⟨rfl, bl⟩
theorem el_140 (g b : Nat) (x : Value) (w : World) (h : w.cell? ⟨g, 0, none⟩ = some (.pointer (some ⟨b, 0, none⟩))) (h1 : w.cell? ⟨b, 1, none⟩ = some x) : Calls Tryz.prog 140 #[.pointer (some ⟨g, 0, none⟩)] w fun e w' => e = .returned x ∧ Below w.heap.size w w' := by
 go_enter Tryz.func140, Tryz.ntmps140
 go_wp2_with (go_at_call 65; fail)
 refine calls_at ?_
 intro w1 hw1
 have b1 : Below w.heap.size w w1 := by rw [hw1]; repeat (first | exact Below.refl _ _ | apply b1_ | apply b2_ | apply b3_)
 clear hw1
 refine (elem65 b x w1 (pw_cell_below b1 h1)).mono ?_
 rintro e w2 ⟨rfl, hb⟩
 have HB := Aside0.mk (below_step b1 hb)
 clear b1 hb h h1
 go_wp2
 go_ret
 exact ⟨rfl, HB.out⟩
theorem ef_124 (g b : Nat) (q : TypeId) (a : Addr) (w : World) (h : w.cell? ⟨g, 0, none⟩ = some (.pointer (some ⟨b, 0, none⟩))) (h1 : w.cell? ⟨b, 1, none⟩ = some (.iface q (.pointer (some a)))) : Calls Tryz.prog 124 #[.pointer (some ⟨g, 0, none⟩)] w fun e w' => e = .returned (.agg #[.string nmEntries, .iface q (.pointer (some a)), .bool false, .slice none 0 0, .slice none 0 0]) ∧ Below w.heap.size w w' := by
 have HH := Aside0.mk (And.intro h h1)
 clear h h1
 go_enter Tryz.func124, Tryz.ntmps124
 go_wp2_with (go_at_call 140; fail)
 refine calls_at ?_
 intro w1 hw1
 have b1 : Below w.heap.size w w1 := by rw [hw1]; repeat (first | exact Below.refl _ _ | apply b1_ | apply b2_ | apply b3_)
 have kB : w1.heap[w.heap.size]? = some (.cells #[.string ⟨#[]⟩, .nilIface, .bool false, .slice none 0 0, .slice none 0 0] 61 (0, 0)) := by rw [hw1]; exact blk_new _ _
 clear hw1
 refine (el_140 g b _ w1 (pw_cell_below b1 HH.out.1) (pw_cell_below b1 HH.out.2)).mono ?_
 rintro e w2 ⟨rfl, hb⟩
 have HB := Aside0.mk (And.intro (below_step b1 hb) (blk_below kB hb))
 clear b1 kB hb
 have z0 := (blk_cell HB.out.2 0).trans (show _ = some (.string ⟨#[]⟩ : Value) from rfl)
 have z1 := (blk_cell HB.out.2 1).trans (show _ = some (.nilIface : Value) from rfl)
 have z2 := (blk_cell HB.out.2 2).trans (show _ = some (.bool false : Value) from rfl)
 have z3 := (blk_cell HB.out.2 3).trans (show _ = some (.slice none 0 0 : Value) from rfl)
 have z4 := (blk_cell HB.out.2 4).trans (show _ = some (.slice none 0 0 : Value) from rfl)
 obtain ⟨f0, f1, f2, f3, f4⟩ := fb5 HB.out.2
 go_wp2
 have hp := put5_row (m := 0) HB.out.2 (.string nmEntries) (.iface q (.pointer (some a))) (.bool false) (.slice none 0 0) (.slice none 0 0)
 have hq := put5_below (m := 0) (v0 := .string nmEntries) (v1 := .iface q (.pointer (some a))) (v2 := .bool false) (v3 := .slice none 0 0) (v4 := .slice none 0 0) HB.out.1 (Nat.le_refl _)
 refine show bodyPost Tryz.prog Tryz.f124 _ Exit.ret _ (put5 w2 w.heap.size 0 (.string nmEntries) (.iface q (.pointer (some a))) (.bool false) (.slice none 0 0) (.slice none 0 0)) from ?_
 generalize put5 w2 w.heap.size 0 (.string nmEntries) (.iface q (.pointer (some a))) (.bool false) (.slice none 0 0) (.slice none 0 0) = W at hp hq ⊢
 obtain ⟨y0, y1, y2, y3, y4⟩ := cb5 hp
 refine bodyPost_ret (v := .agg #[.string nmEntries, .iface q (.pointer (some a)), .bool false, .slice none 0 0, .slice none 0 0]) (by simp [results, Tryz.results124, go_sem, y0, y1, y2, y3, y4]) rfl ⟨rfl, hq⟩
theorem fl_110 (g : Nat) (n : ByteArray) (q : TypeId) (a : Addr) (b : Bool) (t : DT) (ok : Nat → Prop) (w : World) (hx : DTIn w ok t (.iface q (.pointer (some a)))) (hc : ∀ w1, Below w.heap.size w w1 → Calls Tryz.prog 124 #[.pointer (some ⟨g, 0, none⟩)] w1 fun e w' => e = .returned (.agg #[.string n, .iface q (.pointer (some a)), .bool b, .slice none 0 0, .slice none 0 0]) ∧ Below w1.heap.size w1 w') : FieldsC 110 (.pointer (some ⟨g, 0, none⟩)) w [.mk n t b] := by
 intro w0 hb0
 have HH := Aside0.mk (And.intro hc (And.intro hx hb0))
 clear hc hx hb0
 go_enter Tryz.func110, Tryz.ntmps110
 go_wp2_with (go_at_call 124; fail)
 refine calls_at ?_
 intro w1 hw1
 have b1 : Below w0.heap.size w0 w1 := by rw [hw1]; repeat (first | exact Below.refl _ _ | apply b1_ | apply b2_ | apply b3_)
 clear hw1
 refine (HH.out.1 w1 (below_step HH.out.2.2 b1)).mono ?_
 rintro e w2 ⟨rfl, hb⟩
 have HB := Aside0.mk (below_step b1 hb)
 clear b1 hb
 go_wp2
 go_ret
 refine ⟨⟨some ⟨w2.heap.size, 0, none⟩, 1, ok, rfl, row_one (blk_new _ _) ((HH.out.2.1.below (below_step HH.out.2.2 HB.out)).below bl)⟩, b1_ HB.out _⟩
theorem fl_111 (g : Nat) (n : ByteArray) (q : TypeId) (a : Addr) (b : Bool) (t : DT) (ok : Nat → Prop) (w : World) (hx : DTIn w ok t (.iface q (.pointer (some a)))) (hc : ∀ w1, Below w.heap.size w w1 → Calls Tryz.prog 125 #[.pointer (some ⟨g, 0, none⟩)] w1 fun e w' => e = .returned (.agg #[.string n, .iface q (.pointer (some a)), .bool b, .slice none 0 0, .slice none 0 0]) ∧ Below w1.heap.size w1 w') : FieldsC 111 (.pointer (some ⟨g, 0, none⟩)) w [.mk n t b] := by
 intro w0 hb0
 have HH := Aside0.mk (And.intro hc (And.intro hx hb0))
 clear hc hx hb0
 go_enter Tryz.func111, Tryz.ntmps111
 go_wp2_with (go_at_call 125; fail)
 refine calls_at ?_
 intro w1 hw1
 have b1 : Below w0.heap.size w0 w1 := by rw [hw1]; repeat (first | exact Below.refl _ _ | apply b1_ | apply b2_ | apply b3_)
 clear hw1
 refine (HH.out.1 w1 (below_step HH.out.2.2 b1)).mono ?_
 rintro e w2 ⟨rfl, hb⟩
 have HB := Aside0.mk (below_step b1 hb)
 clear b1 hb
 go_wp2
 go_ret
 refine ⟨⟨some ⟨w2.heap.size, 0, none⟩, 1, ok, rfl, row_one (blk_new _ _) ((HH.out.2.1.below (below_step HH.out.2.2 HB.out)).below bl)⟩, b1_ HB.out _⟩
theorem fl_112 (g : Nat) (n : ByteArray) (q : TypeId) (a : Addr) (b : Bool) (t : DT) (ok : Nat → Prop) (w : World) (hx : DTIn w ok t (.iface q (.pointer (some a)))) (hc : ∀ w1, Below w.heap.size w w1 → Calls Tryz.prog 126 #[.pointer (some ⟨g, 0, none⟩)] w1 fun e w' => e = .returned (.agg #[.string n, .iface q (.pointer (some a)), .bool b, .slice none 0 0, .slice none 0 0]) ∧ Below w1.heap.size w1 w') : FieldsC 112 (.pointer (some ⟨g, 0, none⟩)) w [.mk n t b] := by
 intro w0 hb0
 have HH := Aside0.mk (And.intro hc (And.intro hx hb0))
 clear hc hx hb0
 go_enter Tryz.func112, Tryz.ntmps112
 go_wp2_with (go_at_call 126; fail)
 refine calls_at ?_
 intro w1 hw1
 have b1 : Below w0.heap.size w0 w1 := by rw [hw1]; repeat (first | exact Below.refl _ _ | apply b1_ | apply b2_ | apply b3_)
 clear hw1
 refine (HH.out.1 w1 (below_step HH.out.2.2 b1)).mono ?_
 rintro e w2 ⟨rfl, hb⟩
 have HB := Aside0.mk (below_step b1 hb)
 clear b1 hb
 go_wp2
 go_ret
 refine ⟨⟨some ⟨w2.heap.size, 0, none⟩, 1, ok, rfl, row_one (blk_new _ _) ((HH.out.2.1.below (below_step HH.out.2.2 HB.out)).below bl)⟩, b1_ HB.out _⟩
theorem fl_113 (g : Nat) (n : ByteArray) (q : TypeId) (a : Addr) (b : Bool) (t : DT) (ok : Nat → Prop) (w : World) (hx : DTIn w ok t (.iface q (.pointer (some a)))) (hc : ∀ w1, Below w.heap.size w w1 → Calls Tryz.prog 127 #[.pointer (some ⟨g, 0, none⟩)] w1 fun e w' => e = .returned (.agg #[.string n, .iface q (.pointer (some a)), .bool b, .slice none 0 0, .slice none 0 0]) ∧ Below w1.heap.size w1 w') : FieldsC 113 (.pointer (some ⟨g, 0, none⟩)) w [.mk n t b] := by
 intro w0 hb0
 have HH := Aside0.mk (And.intro hc (And.intro hx hb0))
 clear hc hx hb0
 go_enter Tryz.func113, Tryz.ntmps113
 go_wp2_with (go_at_call 127; fail)
 refine calls_at ?_
 intro w1 hw1
 have b1 : Below w0.heap.size w0 w1 := by rw [hw1]; repeat (first | exact Below.refl _ _ | apply b1_ | apply b2_ | apply b3_)
 clear hw1
 refine (HH.out.1 w1 (below_step HH.out.2.2 b1)).mono ?_
 rintro e w2 ⟨rfl, hb⟩
 have HB := Aside0.mk (below_step b1 hb)
 clear b1 hb
 go_wp2
 go_ret
 refine ⟨⟨some ⟨w2.heap.size, 0, none⟩, 1, ok, rfl, row_one (blk_new _ _) ((HH.out.2.1.below (below_step HH.out.2.2 HB.out)).below bl)⟩, b1_ HB.out _⟩
theorem fl_115 (g : Nat) (n : ByteArray) (q : TypeId) (a : Addr) (b : Bool) (t : DT) (ok : Nat → Prop) (w : World) (hx : DTIn w ok t (.iface q (.pointer (some a)))) (hc : ∀ w1, Below w.heap.size w w1 → Calls Tryz.prog 128 #[.pointer (some ⟨g, 0, none⟩)] w1 fun e w' => e = .returned (.agg #[.string n, .iface q (.pointer (some a)), .bool b, .slice none 0 0, .slice none 0 0]) ∧ Below w1.heap.size w1 w') : FieldsC 115 (.pointer (some ⟨g, 0, none⟩)) w [.mk n t b] := by
 intro w0 hb0
 have HH := Aside0.mk (And.intro hc (And.intro hx hb0))
 clear hc hx hb0
 go_enter Tryz.func115, Tryz.ntmps115
 go_wp2_with (go_at_call 128; fail)
 refine calls_at ?_
 intro w1 hw1
 have b1 : Below w0.heap.size w0 w1 := by rw [hw1]; repeat (first | exact Below.refl _ _ | apply b1_ | apply b2_ | apply b3_)
 clear hw1
 refine (HH.out.1 w1 (below_step HH.out.2.2 b1)).mono ?_
 rintro e w2 ⟨rfl, hb⟩
 have HB := Aside0.mk (below_step b1 hb)
 clear b1 hb
 go_wp2
 go_ret
 refine ⟨⟨some ⟨w2.heap.size, 0, none⟩, 1, ok, rfl, row_one (blk_new _ _) ((HH.out.2.1.below (below_step HH.out.2.2 HB.out)).below bl)⟩, b1_ HB.out _⟩
theorem fl_120 (g : Nat) (x y : Value) (b : Bool) (dr dv : DT) (ok : Nat → Prop) (w : World) (hx : DTIn w ok dr x) (hy : DTIn w ok dv y) (h0 : w.cell? ⟨g, 0, none⟩ = some x) (h1 : w.cell? ⟨g, 1, none⟩ = some y) (h2 : w.cell? ⟨g, 2, none⟩ = some (.bool b)) : FieldsC 120 (.pointer (some ⟨g, 0, none⟩)) w [.mk nmRunEnds dr false, .mk nmValues dv b] := by
 intro w0 hb0
 obtain ⟨qx, ax, rfl⟩ := hx.form
 obtain ⟨qy, ay, rfl⟩ := hy.form
 have y0 := pw_cell_below hb0 h0
 have y1 := pw_cell_below hb0 h1
 have y2 := pw_cell_below hb0 h2
 have HH := Aside0.mk (And.intro (hx.below hb0) (hy.below hb0))
 clear hx hy hb0 h0 h1 h2
 go_enter Tryz.func120, Tryz.ntmps120
 go_upto_region 1 with fail
 refine sc 16 (fun w' => Below w0.heap.size w0 w' ∧ w'.cell? ⟨g, 0, none⟩ = some (.iface qx (.pointer (some ax))) ∧ w'.cell? ⟨g, 1, none⟩ = some (.iface qy (.pointer (some ay))) ∧ w'.cell? ⟨g, 2, none⟩ = some (.bool b)) (fun hk0 w2 hs2 hb => ?_)
 clear y0 y1 y2 hb
 refine pu 0 3 1 ?_
 refine pu 1 4 3 ?_
 refine pu 2 5 7 ?_
 refine ta 3 6 15 ?_
 refine pu 4 7 31 ?_
 refine pu 5 8 63 ?_
 refine pu 6 9 127 ?_
 refine pu 7 10 255 ?_
 refine ta 8 11 511 ?_
 refine pu 9 12 1023 ?_
 refine pu 10 13 2047 ?_
 refine pu 11 14 4095 ?_
 refine ta 12 15 8191 ?_
 refine pu 13 16 16383 ?_
 refine rdy [14] (rl 14 17 32767 (.slice (some ⟨w2.heap.size, 0, none⟩) 2 2) (.cells #[.string nmRunEnds, .iface qx (.pointer (some ax)), .bool false, .slice none 0 0, .slice none 0 0, .string nmValues, .iface qy (.pointer (some ay)), .bool b, .slice none 0 0, .slice none 0 0] 61 (0, 0)) hk0 hs2 (fun w3 hz hg hs3 hb3 => no 17 ?_) rn)
 refine pu 15 2 65535 ?_
 refine done_ (by kernel_rfl) ?_
 have HG := Aside0.mk (And.intro hg hs3.1)
 have HL := Aside0.mk (And.intro hz hb3)
 clear hg hs2 hs3 hb3 hz hk0
 go_wp2
 go_ret
 obtain ⟨q1, q2⟩ := HH.out
 refine ⟨⟨some ⟨w2.heap.size, 0, none⟩, 2, ok, rfl, fun _ => ⟨_, rfl, fun j hj => ?_⟩⟩, HG.out.2⟩
 have hj2 : j = 0 ∨ j = 1 := by simp at hj; omega
 rcases hj2 with rfl | rfl
 ·refine ⟨_, ⟨_, rfl, q1.below HG.out.2⟩, fun i u hu => ?_⟩
  rw [add0_, blk_cell HG.out.1]
  match i, hu with
  | 0, h => exact h
  | 1, h => exact h
  | 2, h => exact h
  | 3, h => exact h
  | 4, h => exact h
  | i + 5, h => simp at h
 ·refine ⟨_, ⟨_, rfl, q2.below HG.out.2⟩, fun i u hu => ?_⟩
  rw [add0_, blk_cell HG.out.1]
  match i, hu with
  | 0, h => exact h
  | 1, h => exact h
  | 2, h => exact h
  | 3, h => exact h
  | 4, h => exact h
  | i + 5, h => simp at h
theorem fl_119 (g c : Nat) (A : Option Addr) (fs : List DF) (ok : Nat → Prop) (w : World) (h0 : 0 < fs.length) (hl : fs.length ≤ 100) (h : w.cell? ⟨g, 0, none⟩ = some (.slice A fs.length c)) (hF : FsAt w ok A fs) : FieldsC 119 (.pointer (some ⟨g, 0, none⟩)) w fs := by
 intro w1 hb1
 refine (fields119 g c A fs ok w1 h0 hl (pw_cell_below hb1 h) (hF.below hb1)).mono ?_
 rintro e w2 ⟨⟨rfl, hc⟩, hb2⟩
 refine ⟨⟨_, _, ok, rfl, fun _ => ⟨_, rfl, fun j hj => ?_⟩⟩, hb2⟩
 obtain ⟨b, arr, eA, hk, hb, hr⟩ := (hF.below hb1) h0
 have hlen := dfs_len hr
 have hD := dfs_get hr j hj
 refine ⟨_, DFIn.step (fun k q cells hk hl _ hc => ⟨(hb2.block k hl).trans hc, hk⟩) hD, fun i u hu => ?_⟩
 have hL := hD.len
 have hi : i < 5 := by have := (List.getElem?_eq_some_iff.mp hu).1; omega
 rw [add0_]
 refine hc b eA (j * 5 + i) u (by omega) ?_
 rw [blk_cell hb, ← Array.getElem?_toList]
 rw [List.getElem?_take_of_lt hi, List.getElem?_drop] at hu
 exact hu
end Go.Proofs.YteebgnhhjlgnjaaGreatDoor.V
