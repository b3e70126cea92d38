/- deepNested. -/
import Derived.Test.YteebgnhhjlgnjaaGreatDoorD0
import Derived.Test.YteebgnhhjlgnjaaGreatDoorE2
namespace Go.Proofs.YteebgnhhjlgnjaaGreatDoor.V
open Go.RowKit Go.Proofs.YteebgnhhjlgnjaaGreatDoorW.PrintWords Go.Proofs.YteebgnhhjlgnjaaGreatDoorW.PrintLast Go.Proofs.YteebgnhhjlgnjaaGreatDoorW.PrintMore
set_option maxHeartbeats 40000000
set_option maxRecDepth 100000
set_option linter.unusedVariables false
set_option linter.unusedSimpArgs false
theorem dn_154 (n : Nat) (hD : DpC n) (hF : FdC n) (T T' : S28) (d d' : DT) (v v' : Value) (w : World) (ok ok' : Nat → Prop) (hT : TD (n + 1) T d) (hT' : TD (n + 1) T' d') (hI : DTIn w ok d v) (hI' : DTIn w ok' d' v') (hdis : ∀ k, ok k → ok' k → False) (ht : tyN d = 154) (ht' : tyN d' = 154) :
 Calls Tryz.prog 96 #[v, v'] w fun e w' => Tells e (d = d') ∧ Below w.heap.size w w' := by
 obtain ⟨P, hP⟩ : ∃ P : Prop, P = (d = d') := ⟨_, rfl⟩
 rw [← hP]
 obtain ⟨T1, d1, rfl, hs⟩ := TDs.list_of (show TDs (TD n) T d from hT) ht (by decide)
 obtain ⟨T2, d2, rfl, hs'⟩ := TDs.list_of (show TDs (TD n) T' d' from hT') ht' (by decide)
 simp only [DTIn, DFIn, ptrAt] at hI hI'
 obtain ⟨_, g, cs, rfl, hk, hg, x, rfl, hx⟩ := hI
 obtain ⟨_, g', cs', rfl, hk', hg', x', rfl, hx'⟩ := hI'
 obtain ⟨q, a, rfl⟩ := hx.form
 obtain ⟨p, hp⟩ : ∃ p, p = Value.pointer (some a) := ⟨_, rfl⟩
 rw [← hp] at hx hg
 clear hp
 obtain ⟨q', a', rfl⟩ := hx'.form
 obtain ⟨p', hp'⟩ : ∃ p, p = Value.pointer (some a') := ⟨_, rfl⟩
 rw [← hp'] at hx' hg'
 clear hp'
 have HP := Aside0.mk (show P ↔ d1 = d2 from by rw [hP]; simp)
 have HC := Aside0.mk (And.intro hD (And.intro hF hdis))
 have HX := Aside0.mk (And.intro hx (And.intro hx' (And.intro hs hs')))
 obtain ⟨y0, y1, y2, y3, y4⟩ := cb5 hg
 obtain ⟨z0, z1, z2, z3, z4⟩ := cb5 hg'
 clear hP hD hF hdis hx hx' hs hs' hk hk' hg hg' hT hT' ht ht'
 have hy : ∀ W, (Instr.typeAssert (.iface 154 (.pointer (some ⟨g, 0, none⟩))) 56 154 true).run Tryz.prog W = .ok (.tuple #[.pointer (some ⟨g, 0, none⟩), .bool true]) W := asy_154 _
 have hy' : ∀ W, (Instr.typeAssert (.iface 154 (.pointer (some ⟨g', 0, none⟩))) 56 154 true).run Tryz.prog W = .ok (.tuple #[.pointer (some ⟨g', 0, none⟩), .bool true]) W := asy_154 _
 go_enter Tryz.func96, Tryz.ntmps96
 go_upto_region 5 with fail
 refine start_ (n := 13) (S := fun w' => w'.cell? ⟨g, 0, none⟩ = some (.string nmItem) ∧ w'.cell? ⟨g, 1, none⟩ = some (.iface q p) ∧ w'.cell? ⟨g, 2, none⟩ = some (.bool true) ∧ w'.cell? ⟨g, 3, none⟩ = some (.slice none 0 0) ∧ w'.cell? ⟨g, 4, none⟩ = some (.slice none 0 0) ∧ w'.cell? ⟨g', 0, none⟩ = some (.string nmItem) ∧ w'.cell? ⟨g', 1, none⟩ = some (.iface q' p') ∧ w'.cell? ⟨g', 2, none⟩ = some (.bool true) ∧ w'.cell? ⟨g', 3, none⟩ = some (.slice none 0 0) ∧ w'.cell? ⟨g', 4, none⟩ = some (.slice none 0 0)) (ds := []) (ba 13 0) (by kernel_rfl) rfl rfl ⟨y0, y1, y2, y3, y4, z0, z1, z2, z3, z4⟩ (fun hHeld => ?_)
 generalize hw_ : w.drew = u0 at hHeld ⊢
 have Hu0 := Aside0.mk (show Below w.heap.size w u0 from by rw [← hw_]; exact b3_ (Below.refl _ _))
 clear hw_
 clear y0 y1 y2 y3 y4 z0 z1 z2 z3 z4
 have Su0 := Aside0.mk hHeld
 refine pu 0 44 1 ?_
 refine pu 1 45 3 ?_
 refine pu 2 46 7 ?_
 refine pu 3 47 15 ?_
 refine pu 4 48 31 ?_
 refine ta 5 49 63 ?_
 refine pu 6 50 127 ?_
 refine pu 7 51 255 ?_
 refine pu 8 52 511 ?_
 refine ta 9 53 1023 ?_
 refine one_ (i := 10) (N := some 54) (ba 13 2047) rfl rfl (by kernel_rfl) (by decide) (fun K hK => ?_)
 refine goes_ Tryz.func106 (by kernel_rfl) rfl #[.agg #[.string nmItem, .iface q p, .bool true, .slice none 0 0, .slice none 0 0], .agg #[.string nmItem, .iface q' p', .bool true, .slice none 0 0, .slice none 0 0]] (by rfl) rfl rfl (by (try simp only [List.map_toArray, List.map_cons, List.map_nil]); first | done | rfl) ?_
 refine (HC.out.2.1 nmItem nmItem true true _ _ d1 d2 _ _ u0 ok ok' HX.out.2.2.1 HX.out.2.2.2 (HX.out.1.below Hu0.out) (HX.out.2.1.below Hu0.out) HC.out.2.2).mono ?_
 rintro e u1 ⟨⟨r, rfl, hr⟩, hb⟩
 have Hu1 := Aside0.mk (below_step Hu0.out hb)
 have Su1 := Aside0.mk (show u1.cell? ⟨g, 0, none⟩ = some (.string nmItem) ∧ u1.cell? ⟨g, 1, none⟩ = some (.iface q p) ∧ u1.cell? ⟨g, 2, none⟩ = some (.bool true) ∧ u1.cell? ⟨g, 3, none⟩ = some (.slice none 0 0) ∧ u1.cell? ⟨g, 4, none⟩ = some (.slice none 0 0) ∧ u1.cell? ⟨g', 0, none⟩ = some (.string nmItem) ∧ u1.cell? ⟨g', 1, none⟩ = some (.iface q' p') ∧ u1.cell? ⟨g', 2, none⟩ = some (.bool true) ∧ u1.cell? ⟨g', 3, none⟩ = some (.slice none 0 0) ∧ u1.cell? ⟨g', 4, none⟩ = some (.slice none 0 0) from ⟨pw_cell_below hb Su0.out.1, pw_cell_below hb Su0.out.2.1, pw_cell_below hb Su0.out.2.2.1, pw_cell_below hb Su0.out.2.2.2.1, pw_cell_below hb Su0.out.2.2.2.2.1, pw_cell_below hb Su0.out.2.2.2.2.2.1, pw_cell_below hb Su0.out.2.2.2.2.2.2.1, pw_cell_below hb Su0.out.2.2.2.2.2.2.2.1, pw_cell_below hb Su0.out.2.2.2.2.2.2.2.2.1, pw_cell_below hb Su0.out.2.2.2.2.2.2.2.2.2⟩)
 have HRR := Aside0.mk hr
 clear hr
 clear hb
 refine ⟨_, rfl, ?_⟩
 refine hK.out _ _ Su1.out (fun hHeld => ?_)
 clear hK K
 refine no 54 ?_
 refine pu 11 55 4095 ?_
 refine pu 12 4 8191 ?_
 refine done_ (by kernel_rfl) ?_
 clear hHeld
 go_wp2
 go_ret
 exact ⟨⟨r, rfl, by rw [HP.out]; exact ⟨fun h => (HRR.out.1 h).2.2, fun h => HRR.out.2 ⟨by first | rfl | trivial, by first | rfl | trivial, h⟩⟩⟩, Hu1.out⟩
theorem dn_233 (n : Nat) (hD : DpC n) (hF : FdC n) (T T' : S28) (d d' : DT) (v v' : Value) (w : World) (ok ok' : Nat → Prop) (hT : TD (n + 1) T d) (hT' : TD (n + 1) T' d') (hI : DTIn w ok d v) (hI' : DTIn w ok' d' v') (hdis : ∀ k, ok k → ok' k → False) (ht : tyN d = 233) (ht' : tyN d' = 233) :
 Calls Tryz.prog 96 #[v, v'] w fun e w' => Tells e (d = d') ∧ Below w.heap.size w w' := by
 obtain ⟨P, hP⟩ : ∃ P : Prop, P = (d = d') := ⟨_, rfl⟩
 rw [← hP]
 obtain ⟨T1, d1, rfl, hs⟩ := TDs.list_of (show TDs (TD n) T d from hT) ht (by decide)
 obtain ⟨T2, d2, rfl, hs'⟩ := TDs.list_of (show TDs (TD n) T' d' from hT') ht' (by decide)
 simp only [DTIn, DFIn, ptrAt] at hI hI'
 obtain ⟨_, g, cs, rfl, hk, hg, x, rfl, hx⟩ := hI
 obtain ⟨_, g', cs', rfl, hk', hg', x', rfl, hx'⟩ := hI'
 obtain ⟨q, a, rfl⟩ := hx.form
 obtain ⟨p, hp⟩ : ∃ p, p = Value.pointer (some a) := ⟨_, rfl⟩
 rw [← hp] at hx hg
 clear hp
 obtain ⟨q', a', rfl⟩ := hx'.form
 obtain ⟨p', hp'⟩ : ∃ p, p = Value.pointer (some a') := ⟨_, rfl⟩
 rw [← hp'] at hx' hg'
 clear hp'
 have HP := Aside0.mk (show P ↔ d1 = d2 from by rw [hP]; simp)
 have HC := Aside0.mk (And.intro hD (And.intro hF hdis))
 have HX := Aside0.mk (And.intro hx (And.intro hx' (And.intro hs hs')))
 obtain ⟨y0, y1, y2, y3, y4⟩ := cb5 hg
 obtain ⟨z0, z1, z2, z3, z4⟩ := cb5 hg'
 clear hP hD hF hdis hx hx' hs hs' hk hk' hg hg' hT hT' ht ht'
 have hn154 := (asn_154 233 (.pointer (some ⟨g, 0, none⟩)) (by decide)).o
 have hy : ∀ W, (Instr.typeAssert (.iface 233 (.pointer (some ⟨g, 0, none⟩))) 56 233 true).run Tryz.prog W = .ok (.tuple #[.pointer (some ⟨g, 0, none⟩), .bool true]) W := asy_233 _
 have hy' : ∀ W, (Instr.typeAssert (.iface 233 (.pointer (some ⟨g', 0, none⟩))) 56 233 true).run Tryz.prog W = .ok (.tuple #[.pointer (some ⟨g', 0, none⟩), .bool true]) W := asy_233 _
 go_enter Tryz.func96, Tryz.ntmps96
 go_upto_region 9 with fail
 refine start_ (n := 15) (S := fun w' => w'.cell? ⟨g, 0, none⟩ = some (.string nmItem) ∧ w'.cell? ⟨g, 1, none⟩ = some (.iface q p) ∧ w'.cell? ⟨g, 2, none⟩ = some (.bool true) ∧ w'.cell? ⟨g, 3, none⟩ = some (.slice none 0 0) ∧ w'.cell? ⟨g, 4, none⟩ = some (.slice none 0 0) ∧ w'.cell? ⟨g', 0, none⟩ = some (.string nmItem) ∧ w'.cell? ⟨g', 1, none⟩ = some (.iface q' p') ∧ w'.cell? ⟨g', 2, none⟩ = some (.bool true) ∧ w'.cell? ⟨g', 3, none⟩ = some (.slice none 0 0) ∧ w'.cell? ⟨g', 4, none⟩ = some (.slice none 0 0)) (ds := []) (ba 15 0) (by kernel_rfl) rfl rfl ⟨y0, y1, y2, y3, y4, z0, z1, z2, z3, z4⟩ (fun hHeld => ?_)
 generalize hw_ : w.drew = u0 at hHeld ⊢
 have Hu0 := Aside0.mk (show Below w.heap.size w u0 from by rw [← hw_]; exact b3_ (Below.refl _ _))
 clear hw_
 clear y0 y1 y2 y3 y4 z0 z1 z2 z3 z4
 have Su0 := Aside0.mk hHeld
 refine pu 0 64 1 ?_
 refine pu 1 65 3 ?_
 refine pu 2 66 7 ?_
 refine pu 3 67 15 ?_
 refine pu 4 68 31 ?_
 refine pu 5 69 63 ?_
 refine ta 6 70 127 ?_
 refine pu 7 71 255 ?_
 refine pu 8 72 511 ?_
 refine pu 9 73 1023 ?_
 refine pu 10 74 2047 ?_
 refine ta 11 75 4095 ?_
 refine one_ (i := 12) (N := some 76) (ba 15 8191) rfl rfl (by kernel_rfl) (by decide) (fun K hK => ?_)
 refine goes_ Tryz.func106 (by kernel_rfl) rfl #[.agg #[.string nmItem, .iface q p, .bool true, .slice none 0 0, .slice none 0 0], .agg #[.string nmItem, .iface q' p', .bool true, .slice none 0 0, .slice none 0 0]] (by rfl) rfl rfl (by (try simp only [List.map_toArray, List.map_cons, List.map_nil]); first | done | rfl) ?_
 refine (HC.out.2.1 nmItem nmItem true true _ _ d1 d2 _ _ u0 ok ok' HX.out.2.2.1 HX.out.2.2.2 (HX.out.1.below Hu0.out) (HX.out.2.1.below Hu0.out) HC.out.2.2).mono ?_
 rintro e u1 ⟨⟨r, rfl, hr⟩, hb⟩
 have Hu1 := Aside0.mk (below_step Hu0.out hb)
 have Su1 := Aside0.mk (show u1.cell? ⟨g, 0, none⟩ = some (.string nmItem) ∧ u1.cell? ⟨g, 1, none⟩ = some (.iface q p) ∧ u1.cell? ⟨g, 2, none⟩ = some (.bool true) ∧ u1.cell? ⟨g, 3, none⟩ = some (.slice none 0 0) ∧ u1.cell? ⟨g, 4, none⟩ = some (.slice none 0 0) ∧ u1.cell? ⟨g', 0, none⟩ = some (.string nmItem) ∧ u1.cell? ⟨g', 1, none⟩ = some (.iface q' p') ∧ u1.cell? ⟨g', 2, none⟩ = some (.bool true) ∧ u1.cell? ⟨g', 3, none⟩ = some (.slice none 0 0) ∧ u1.cell? ⟨g', 4, none⟩ = some (.slice none 0 0) from ⟨pw_cell_below hb Su0.out.1, pw_cell_below hb Su0.out.2.1, pw_cell_below hb Su0.out.2.2.1, pw_cell_below hb Su0.out.2.2.2.1, pw_cell_below hb Su0.out.2.2.2.2.1, pw_cell_below hb Su0.out.2.2.2.2.2.1, pw_cell_below hb Su0.out.2.2.2.2.2.2.1, pw_cell_below hb Su0.out.2.2.2.2.2.2.2.1, pw_cell_below hb Su0.out.2.2.2.2.2.2.2.2.1, pw_cell_below hb Su0.out.2.2.2.2.2.2.2.2.2⟩)
 have HRR := Aside0.mk hr
 clear hr
 clear hb
 refine ⟨_, rfl, ?_⟩
 refine hK.out _ _ Su1.out (fun hHeld => ?_)
 clear hK K
 refine no 76 ?_
 refine pu 13 77 16383 ?_
 refine pu 14 4 32767 ?_
 refine done_ (by kernel_rfl) ?_
 clear hHeld
 go_wp2
 go_ret
 exact ⟨⟨r, rfl, by rw [HP.out]; exact ⟨fun h => (HRR.out.1 h).2.2, fun h => HRR.out.2 ⟨by first | rfl | trivial, by first | rfl | trivial, h⟩⟩⟩, Hu1.out⟩
theorem dn_180 (n : Nat) (hD : DpC n) (hF : FdC n) (T T' : S28) (d d' : DT) (v v' : Value) (w : World) (ok ok' : Nat → Prop) (hT : TD (n + 1) T d) (hT' : TD (n + 1) T' d') (hI : DTIn w ok d v) (hI' : DTIn w ok' d' v') (hdis : ∀ k, ok k → ok' k → False) (ht : tyN d = 180) (ht' : tyN d' = 180) :
 Calls Tryz.prog 96 #[v, v'] w fun e w' => Tells e (d = d') ∧ Below w.heap.size w w' := by
 obtain ⟨P, hP⟩ : ∃ P : Prop, P = (d = d') := ⟨_, rfl⟩
 rw [← hP]
 obtain ⟨T1, d1, rfl, hs⟩ := TDs.list_of (show TDs (TD n) T d from hT) ht (by decide)
 obtain ⟨T2, d2, rfl, hs'⟩ := TDs.list_of (show TDs (TD n) T' d' from hT') ht' (by decide)
 simp only [DTIn, DFIn, ptrAt] at hI hI'
 obtain ⟨_, g, cs, rfl, hk, hg, x, rfl, hx⟩ := hI
 obtain ⟨_, g', cs', rfl, hk', hg', x', rfl, hx'⟩ := hI'
 obtain ⟨q, a, rfl⟩ := hx.form
 obtain ⟨p, hp⟩ : ∃ p, p = Value.pointer (some a) := ⟨_, rfl⟩
 rw [← hp] at hx hg
 clear hp
 obtain ⟨q', a', rfl⟩ := hx'.form
 obtain ⟨p', hp'⟩ : ∃ p, p = Value.pointer (some a') := ⟨_, rfl⟩
 rw [← hp'] at hx' hg'
 clear hp'
 have HP := Aside0.mk (show P ↔ d1 = d2 from by rw [hP]; simp)
 have HC := Aside0.mk (And.intro hD (And.intro hF hdis))
 have HX := Aside0.mk (And.intro hx (And.intro hx' (And.intro hs hs')))
 obtain ⟨y0, y1, y2, y3, y4⟩ := cb5 hg
 obtain ⟨z0, z1, z2, z3, z4⟩ := cb5 hg'
 clear hP hD hF hdis hx hx' hs hs' hk hk' hg hg' hT hT' ht ht'
 have hn154 := (asn_154 180 (.pointer (some ⟨g, 0, none⟩)) (by decide)).o
 have hn233 := (asn_233 180 (.pointer (some ⟨g, 0, none⟩)) (by decide)).o
 have hy : ∀ W, (Instr.typeAssert (.iface 180 (.pointer (some ⟨g, 0, none⟩))) 56 180 true).run Tryz.prog W = .ok (.tuple #[.pointer (some ⟨g, 0, none⟩), .bool true]) W := asy_180 _
 have hy' : ∀ W, (Instr.typeAssert (.iface 180 (.pointer (some ⟨g', 0, none⟩))) 56 180 true).run Tryz.prog W = .ok (.tuple #[.pointer (some ⟨g', 0, none⟩), .bool true]) W := asy_180 _
 go_enter Tryz.func96, Tryz.ntmps96
 go_upto_region 13 with fail
 refine start_ (n := 13) (S := fun w' => w'.cell? ⟨g, 0, none⟩ = some (.string nmItem) ∧ w'.cell? ⟨g, 1, none⟩ = some (.iface q p) ∧ w'.cell? ⟨g, 2, none⟩ = some (.bool true) ∧ w'.cell? ⟨g, 3, none⟩ = some (.slice none 0 0) ∧ w'.cell? ⟨g, 4, none⟩ = some (.slice none 0 0) ∧ w'.cell? ⟨g', 0, none⟩ = some (.string nmItem) ∧ w'.cell? ⟨g', 1, none⟩ = some (.iface q' p') ∧ w'.cell? ⟨g', 2, none⟩ = some (.bool true) ∧ w'.cell? ⟨g', 3, none⟩ = some (.slice none 0 0) ∧ w'.cell? ⟨g', 4, none⟩ = some (.slice none 0 0)) (ds := []) (ba 13 0) (by kernel_rfl) rfl rfl ⟨y0, y1, y2, y3, y4, z0, z1, z2, z3, z4⟩ (fun hHeld => ?_)
 generalize hw_ : w.drew = u0 at hHeld ⊢
 have Hu0 := Aside0.mk (show Below w.heap.size w u0 from by rw [← hw_]; exact b3_ (Below.refl _ _))
 clear hw_
 clear y0 y1 y2 y3 y4 z0 z1 z2 z3 z4
 have Su0 := Aside0.mk hHeld
 refine pu 0 86 1 ?_
 refine pu 1 87 3 ?_
 refine pu 2 88 7 ?_
 refine pu 3 89 15 ?_
 refine pu 4 90 31 ?_
 refine ta 5 91 63 ?_
 refine pu 6 92 127 ?_
 refine pu 7 93 255 ?_
 refine pu 8 94 511 ?_
 refine ta 9 95 1023 ?_
 refine one_ (i := 10) (N := some 96) (ba 13 2047) rfl rfl (by kernel_rfl) (by decide) (fun K hK => ?_)
 refine goes_ Tryz.func106 (by kernel_rfl) rfl #[.agg #[.string nmItem, .iface q p, .bool true, .slice none 0 0, .slice none 0 0], .agg #[.string nmItem, .iface q' p', .bool true, .slice none 0 0, .slice none 0 0]] (by rfl) rfl rfl (by (try simp only [List.map_toArray, List.map_cons, List.map_nil]); first | done | rfl) ?_
 refine (HC.out.2.1 nmItem nmItem true true _ _ d1 d2 _ _ u0 ok ok' HX.out.2.2.1 HX.out.2.2.2 (HX.out.1.below Hu0.out) (HX.out.2.1.below Hu0.out) HC.out.2.2).mono ?_
 rintro e u1 ⟨⟨r, rfl, hr⟩, hb⟩
 have Hu1 := Aside0.mk (below_step Hu0.out hb)
 have Su1 := Aside0.mk (show u1.cell? ⟨g, 0, none⟩ = some (.string nmItem) ∧ u1.cell? ⟨g, 1, none⟩ = some (.iface q p) ∧ u1.cell? ⟨g, 2, none⟩ = some (.bool true) ∧ u1.cell? ⟨g, 3, none⟩ = some (.slice none 0 0) ∧ u1.cell? ⟨g, 4, none⟩ = some (.slice none 0 0) ∧ u1.cell? ⟨g', 0, none⟩ = some (.string nmItem) ∧ u1.cell? ⟨g', 1, none⟩ = some (.iface q' p') ∧ u1.cell? ⟨g', 2, none⟩ = some (.bool true) ∧ u1.cell? ⟨g', 3, none⟩ = some (.slice none 0 0) ∧ u1.cell? ⟨g', 4, none⟩ = some (.slice none 0 0) from ⟨pw_cell_below hb Su0.out.1, pw_cell_below hb Su0.out.2.1, pw_cell_below hb Su0.out.2.2.1, pw_cell_below hb Su0.out.2.2.2.1, pw_cell_below hb Su0.out.2.2.2.2.1, pw_cell_below hb Su0.out.2.2.2.2.2.1, pw_cell_below hb Su0.out.2.2.2.2.2.2.1, pw_cell_below hb Su0.out.2.2.2.2.2.2.2.1, pw_cell_below hb Su0.out.2.2.2.2.2.2.2.2.1, pw_cell_below hb Su0.out.2.2.2.2.2.2.2.2.2⟩)
 have HRR := Aside0.mk hr
 clear hr
 clear hb
 refine ⟨_, rfl, ?_⟩
 refine hK.out _ _ Su1.out (fun hHeld => ?_)
 clear hK K
 refine no 96 ?_
 refine pu 11 97 4095 ?_
 refine pu 12 4 8191 ?_
 refine done_ (by kernel_rfl) ?_
 clear hHeld
 go_wp2
 go_ret
 exact ⟨⟨r, rfl, by rw [HP.out]; exact ⟨fun h => (HRR.out.1 h).2.2, fun h => HRR.out.2 ⟨by first | rfl | trivial, by first | rfl | trivial, h⟩⟩⟩, Hu1.out⟩
theorem dn_236 (n : Nat) (hD : DpC n) (hF : FdC n) (T T' : S28) (d d' : DT) (v v' : Value) (w : World) (ok ok' : Nat → Prop) (hT : TD (n + 1) T d) (hT' : TD (n + 1) T' d') (hI : DTIn w ok d v) (hI' : DTIn w ok' d' v') (hdis : ∀ k, ok k → ok' k → False) (ht : tyN d = 236) (ht' : tyN d' = 236) :
 Calls Tryz.prog 96 #[v, v'] w fun e w' => Tells e (d = d') ∧ Below w.heap.size w w' := by
 obtain ⟨P, hP⟩ : ∃ P : Prop, P = (d = d') := ⟨_, rfl⟩
 rw [← hP]
 obtain ⟨T1, d1, rfl, hs⟩ := TDs.list_of (show TDs (TD n) T d from hT) ht (by decide)
 obtain ⟨T2, d2, rfl, hs'⟩ := TDs.list_of (show TDs (TD n) T' d' from hT') ht' (by decide)
 simp only [DTIn, DFIn, ptrAt] at hI hI'
 obtain ⟨_, g, cs, rfl, hk, hg, x, rfl, hx⟩ := hI
 obtain ⟨_, g', cs', rfl, hk', hg', x', rfl, hx'⟩ := hI'
 obtain ⟨q, a, rfl⟩ := hx.form
 obtain ⟨p, hp⟩ : ∃ p, p = Value.pointer (some a) := ⟨_, rfl⟩
 rw [← hp] at hx hg
 clear hp
 obtain ⟨q', a', rfl⟩ := hx'.form
 obtain ⟨p', hp'⟩ : ∃ p, p = Value.pointer (some a') := ⟨_, rfl⟩
 rw [← hp'] at hx' hg'
 clear hp'
 have HP := Aside0.mk (show P ↔ d1 = d2 from by rw [hP]; simp)
 have HC := Aside0.mk (And.intro hD (And.intro hF hdis))
 have HX := Aside0.mk (And.intro hx (And.intro hx' (And.intro hs hs')))
 obtain ⟨y0, y1, y2, y3, y4⟩ := cb5 hg
 obtain ⟨z0, z1, z2, z3, z4⟩ := cb5 hg'
 clear hP hD hF hdis hx hx' hs hs' hk hk' hg hg' hT hT' ht ht'
 have hn154 := (asn_154 236 (.pointer (some ⟨g, 0, none⟩)) (by decide)).o
 have hn233 := (asn_233 236 (.pointer (some ⟨g, 0, none⟩)) (by decide)).o
 have hn180 := (asn_180 236 (.pointer (some ⟨g, 0, none⟩)) (by decide)).o
 have hy : ∀ W, (Instr.typeAssert (.iface 236 (.pointer (some ⟨g, 0, none⟩))) 56 236 true).run Tryz.prog W = .ok (.tuple #[.pointer (some ⟨g, 0, none⟩), .bool true]) W := asy_236 _
 have hy' : ∀ W, (Instr.typeAssert (.iface 236 (.pointer (some ⟨g', 0, none⟩))) 56 236 true).run Tryz.prog W = .ok (.tuple #[.pointer (some ⟨g', 0, none⟩), .bool true]) W := asy_236 _
 go_enter Tryz.func96, Tryz.ntmps96
 go_upto_region 17 with fail
 refine start_ (n := 13) (S := fun w' => w'.cell? ⟨g, 0, none⟩ = some (.string nmItem) ∧ w'.cell? ⟨g, 1, none⟩ = some (.iface q p) ∧ w'.cell? ⟨g, 2, none⟩ = some (.bool true) ∧ w'.cell? ⟨g, 3, none⟩ = some (.slice none 0 0) ∧ w'.cell? ⟨g, 4, none⟩ = some (.slice none 0 0) ∧ w'.cell? ⟨g', 0, none⟩ = some (.string nmItem) ∧ w'.cell? ⟨g', 1, none⟩ = some (.iface q' p') ∧ w'.cell? ⟨g', 2, none⟩ = some (.bool true) ∧ w'.cell? ⟨g', 3, none⟩ = some (.slice none 0 0) ∧ w'.cell? ⟨g', 4, none⟩ = some (.slice none 0 0)) (ds := []) (ba 13 0) (by kernel_rfl) rfl rfl ⟨y0, y1, y2, y3, y4, z0, z1, z2, z3, z4⟩ (fun hHeld => ?_)
 generalize hw_ : w.drew = u0 at hHeld ⊢
 have Hu0 := Aside0.mk (show Below w.heap.size w u0 from by rw [← hw_]; exact b3_ (Below.refl _ _))
 clear hw_
 clear y0 y1 y2 y3 y4 z0 z1 z2 z3 z4
 have Su0 := Aside0.mk hHeld
 refine pu 0 106 1 ?_
 refine pu 1 107 3 ?_
 refine pu 2 108 7 ?_
 refine pu 3 109 15 ?_
 refine pu 4 110 31 ?_
 refine ta 5 111 63 ?_
 refine pu 6 112 127 ?_
 refine pu 7 113 255 ?_
 refine pu 8 114 511 ?_
 refine ta 9 115 1023 ?_
 refine one_ (i := 10) (N := some 116) (ba 13 2047) rfl rfl (by kernel_rfl) (by decide) (fun K hK => ?_)
 refine goes_ Tryz.func106 (by kernel_rfl) rfl #[.agg #[.string nmItem, .iface q p, .bool true, .slice none 0 0, .slice none 0 0], .agg #[.string nmItem, .iface q' p', .bool true, .slice none 0 0, .slice none 0 0]] (by rfl) rfl rfl (by (try simp only [List.map_toArray, List.map_cons, List.map_nil]); first | done | rfl) ?_
 refine (HC.out.2.1 nmItem nmItem true true _ _ d1 d2 _ _ u0 ok ok' HX.out.2.2.1 HX.out.2.2.2 (HX.out.1.below Hu0.out) (HX.out.2.1.below Hu0.out) HC.out.2.2).mono ?_
 rintro e u1 ⟨⟨r, rfl, hr⟩, hb⟩
 have Hu1 := Aside0.mk (below_step Hu0.out hb)
 have Su1 := Aside0.mk (show u1.cell? ⟨g, 0, none⟩ = some (.string nmItem) ∧ u1.cell? ⟨g, 1, none⟩ = some (.iface q p) ∧ u1.cell? ⟨g, 2, none⟩ = some (.bool true) ∧ u1.cell? ⟨g, 3, none⟩ = some (.slice none 0 0) ∧ u1.cell? ⟨g, 4, none⟩ = some (.slice none 0 0) ∧ u1.cell? ⟨g', 0, none⟩ = some (.string nmItem) ∧ u1.cell? ⟨g', 1, none⟩ = some (.iface q' p') ∧ u1.cell? ⟨g', 2, none⟩ = some (.bool true) ∧ u1.cell? ⟨g', 3, none⟩ = some (.slice none 0 0) ∧ u1.cell? ⟨g', 4, none⟩ = some (.slice none 0 0) from ⟨pw_cell_below hb Su0.out.1, pw_cell_below hb Su0.out.2.1, pw_cell_below hb Su0.out.2.2.1, pw_cell_below hb Su0.out.2.2.2.1, pw_cell_below hb Su0.out.2.2.2.2.1, pw_cell_below hb Su0.out.2.2.2.2.2.1, pw_cell_below hb Su0.out.2.2.2.2.2.2.1, pw_cell_below hb Su0.out.2.2.2.2.2.2.2.1, pw_cell_below hb Su0.out.2.2.2.2.2.2.2.2.1, pw_cell_below hb Su0.out.2.2.2.2.2.2.2.2.2⟩)
 have HRR := Aside0.mk hr
 clear hr
 clear hb
 refine ⟨_, rfl, ?_⟩
 refine hK.out _ _ Su1.out (fun hHeld => ?_)
 clear hK K
 refine no 116 ?_
 refine pu 11 117 4095 ?_
 refine pu 12 4 8191 ?_
 refine done_ (by kernel_rfl) ?_
 clear hHeld
 go_wp2
 go_ret
 exact ⟨⟨r, rfl, by rw [HP.out]; exact ⟨fun h => (HRR.out.1 h).2.2, fun h => HRR.out.2 ⟨by first | rfl | trivial, by first | rfl | trivial, h⟩⟩⟩, Hu1.out⟩
theorem dn_158 (n : Nat) (hD : DpC n) (hF : FdC n) (T T' : S28) (d d' : DT) (v v' : Value) (w : World) (ok ok' : Nat → Prop) (hT : TD (n + 1) T d) (hT' : TD (n + 1) T' d') (hI : DTIn w ok d v) (hI' : DTIn w ok' d' v') (hdis : ∀ k, ok k → ok' k → False) (ht : tyN d = 158) (ht' : tyN d' = 158) :
 Calls Tryz.prog 96 #[v, v'] w fun e w' => Tells e (d = d') ∧ Below w.heap.size w w' := by
 obtain ⟨P, hP⟩ : ∃ P : Prop, P = (d = d') := ⟨_, rfl⟩
 rw [← hP]
 obtain ⟨m, T1, d1, rfl, hs⟩ := TDs.flist_of (show TDs (TD n) T d from hT) ht rfl
 obtain ⟨m', T2, d2, rfl, hs'⟩ := TDs.flist_of (show TDs (TD n) T' d' from hT') ht' rfl
 simp only [DTIn, DFIn, ptrAt] at hI hI'
 obtain ⟨g, cs, rfl, hk, hg, x, rfl, hx⟩ := hI
 obtain ⟨g', cs', rfl, hk', hg', x', rfl, hx'⟩ := hI'
 obtain ⟨q, a, rfl⟩ := hx.form
 obtain ⟨p, hp⟩ : ∃ p, p = Value.pointer (some a) := ⟨_, rfl⟩
 rw [← hp] at hx hg
 clear hp
 obtain ⟨q', a', rfl⟩ := hx'.form
 obtain ⟨p', hp'⟩ : ∃ p, p = Value.pointer (some a') := ⟨_, rfl⟩
 rw [← hp'] at hx' hg'
 clear hp'
 have HP := Aside0.mk (show P ↔ (m = m' ∧ d1 = d2) from by rw [hP]; simp)
 have HC := Aside0.mk (And.intro hD (And.intro hF hdis))
 have HX := Aside0.mk (And.intro hx (And.intro hx' (And.intro hs hs')))
 obtain ⟨y0, y1, y2, y3, y4, y5⟩ := cb6 hg
 obtain ⟨z0, z1, z2, z3, z4, z5⟩ := cb6 hg'
 clear hP hD hF hdis hx hx' hs hs' hk hk' hg hg' hT hT' ht ht'
 have hn154 := (asn_154 158 (.pointer (some ⟨g, 0, none⟩)) (by decide)).o
 have hn233 := (asn_233 158 (.pointer (some ⟨g, 0, none⟩)) (by decide)).o
 have hn180 := (asn_180 158 (.pointer (some ⟨g, 0, none⟩)) (by decide)).o
 have hn236 := (asn_236 158 (.pointer (some ⟨g, 0, none⟩)) (by decide)).o
 have hy : ∀ W, (Instr.typeAssert (.iface 158 (.pointer (some ⟨g, 0, none⟩))) 56 158 true).run Tryz.prog W = .ok (.tuple #[.pointer (some ⟨g, 0, none⟩), .bool true]) W := asy_158 _
 have hy' : ∀ W, (Instr.typeAssert (.iface 158 (.pointer (some ⟨g', 0, none⟩))) 56 158 true).run Tryz.prog W = .ok (.tuple #[.pointer (some ⟨g', 0, none⟩), .bool true]) W := asy_158 _
 by_cases hm : m = m'
 rotate_left
 ·have qb : (m == m') = false := by simpa using hm
  have HM := Aside0.mk hm
  clear hm
  go_enter Tryz.func96, Tryz.ntmps96
  go_upto_region 21 with fail
  refine start_ (n := 24) (S := fun w' => w'.cell? ⟨g, 0, none⟩ = some (.int .i32 m) ∧ w'.cell? ⟨g, 1, none⟩ = some (.string nmItem) ∧ w'.cell? ⟨g, 2, none⟩ = some (.iface q p) ∧ w'.cell? ⟨g, 3, none⟩ = some (.bool true) ∧ w'.cell? ⟨g, 4, none⟩ = some (.slice none 0 0) ∧ w'.cell? ⟨g, 5, none⟩ = some (.slice none 0 0) ∧ w'.cell? ⟨g', 0, none⟩ = some (.int .i32 m') ∧ w'.cell? ⟨g', 1, none⟩ = some (.string nmItem) ∧ w'.cell? ⟨g', 2, none⟩ = some (.iface q' p') ∧ w'.cell? ⟨g', 3, none⟩ = some (.bool true) ∧ w'.cell? ⟨g', 4, none⟩ = some (.slice none 0 0) ∧ w'.cell? ⟨g', 5, none⟩ = some (.slice none 0 0)) (ds := []) (ba 24 0) (by kernel_rfl) rfl rfl ⟨y0, y1, y2, y3, y4, y5, z0, z1, z2, z3, z4, z5⟩ (fun hHeld => ?_)
  generalize hw_ : w.drew = u0 at hHeld ⊢
  have Hu0 := Aside0.mk (show Below w.heap.size w u0 from by rw [← hw_]; exact b3_ (Below.refl _ _))
  clear hw_
  clear y0 y1 y2 y3 y4 y5 z0 z1 z2 z3 z4 z5
  have Su0 := Aside0.mk hHeld
  refine pu 0 126 1 ?_
  refine pu 1 127 3 ?_
  refine pu 2 128 7 ?_
  refine pu 3 129 15 ?_
  refine pu 4 130 31 ?_
  refine ta 5 131 63 ?_
  refine pu 6 132 127 ?_
  refine pu 7 133 255 ?_
  refine pu 8 134 511 ?_
  refine ta 9 135 1023 ?_
  refine pu 10 136 2047 ?_
  refine pu 11 137 4095 ?_
  refine pu 12 138 8191 ?_
  refine ou 13 139 16383 ?_
  refine ou 14 140 32767 ?_
  refine ou 15 141 65535 ?_
  refine ou 16 142 131071 ?_
  refine ou 17 143 262143 ?_
  refine ou 18 144 524287 ?_
  refine ou 19 145 1048575 ?_
  refine ou 20 146 2097151 ?_
  refine ou 21 147 4194303 ?_
  refine pu 22 148 8388607 ?_
  refine pu 23 4 16777215 ?_
  refine done_ (by kernel_rfl) ?_
  clear hHeld
  go_wp2
  go_ret
  exact ⟨tells_no (fun h => by rw [HP.out] at h; exact HM.out h.1), Hu0.out⟩
 have HM := Aside0.mk hm
 rw [← hm] at z0
 clear hm
 go_enter Tryz.func96, Tryz.ntmps96
 go_upto_region 21 with fail
 refine start_ (n := 24) (S := fun w' => w'.cell? ⟨g, 0, none⟩ = some (.int .i32 m) ∧ w'.cell? ⟨g, 1, none⟩ = some (.string nmItem) ∧ w'.cell? ⟨g, 2, none⟩ = some (.iface q p) ∧ w'.cell? ⟨g, 3, none⟩ = some (.bool true) ∧ w'.cell? ⟨g, 4, none⟩ = some (.slice none 0 0) ∧ w'.cell? ⟨g, 5, none⟩ = some (.slice none 0 0) ∧ w'.cell? ⟨g', 0, none⟩ = some (.int .i32 m) ∧ w'.cell? ⟨g', 1, none⟩ = some (.string nmItem) ∧ w'.cell? ⟨g', 2, none⟩ = some (.iface q' p') ∧ w'.cell? ⟨g', 3, none⟩ = some (.bool true) ∧ w'.cell? ⟨g', 4, none⟩ = some (.slice none 0 0) ∧ w'.cell? ⟨g', 5, none⟩ = some (.slice none 0 0)) (ds := []) (ba 24 0) (by kernel_rfl) rfl rfl ⟨y0, y1, y2, y3, y4, y5, z0, z1, z2, z3, z4, z5⟩ (fun hHeld => ?_)
 generalize hw_ : w.drew = u0 at hHeld ⊢
 have Hu0 := Aside0.mk (show Below w.heap.size w u0 from by rw [← hw_]; exact b3_ (Below.refl _ _))
 clear hw_
 clear y0 y1 y2 y3 y4 y5 z0 z1 z2 z3 z4 z5
 have Su0 := Aside0.mk hHeld
 refine pu 0 126 1 ?_
 refine pu 1 127 3 ?_
 refine pu 2 128 7 ?_
 refine pu 3 129 15 ?_
 refine pu 4 130 31 ?_
 refine ta 5 131 63 ?_
 refine pu 6 132 127 ?_
 refine pu 7 133 255 ?_
 refine pu 8 134 511 ?_
 refine ta 9 135 1023 ?_
 refine pu 10 136 2047 ?_
 refine pu 11 137 4095 ?_
 refine pu 12 138 8191 ?_
 refine pu 13 139 16383 ?_
 refine pu 14 140 32767 ?_
 refine pu 15 141 65535 ?_
 refine ta 16 142 131071 ?_
 refine pu 17 143 262143 ?_
 refine pu 18 144 524287 ?_
 refine pu 19 145 1048575 ?_
 refine ta 20 146 2097151 ?_
 refine one_ (i := 21) (N := some 147) (ba 24 4194303) rfl rfl (by kernel_rfl) (by decide) (fun K hK => ?_)
 refine goes_ Tryz.func106 (by kernel_rfl) rfl #[.agg #[.string nmItem, .iface q p, .bool true, .slice none 0 0, .slice none 0 0], .agg #[.string nmItem, .iface q' p', .bool true, .slice none 0 0, .slice none 0 0]] (by rfl) rfl rfl (by (try simp only [List.map_toArray, List.map_cons, List.map_nil]); first | done | rfl) ?_
 refine (HC.out.2.1 nmItem nmItem true true _ _ d1 d2 _ _ u0 ok ok' HX.out.2.2.1 HX.out.2.2.2 (HX.out.1.below Hu0.out) (HX.out.2.1.below Hu0.out) HC.out.2.2).mono ?_
 rintro e u1 ⟨⟨r, rfl, hr⟩, hb⟩
 have Hu1 := Aside0.mk (below_step Hu0.out hb)
 have Su1 := Aside0.mk (show u1.cell? ⟨g, 0, none⟩ = some (.int .i32 m) ∧ u1.cell? ⟨g, 1, none⟩ = some (.string nmItem) ∧ u1.cell? ⟨g, 2, none⟩ = some (.iface q p) ∧ u1.cell? ⟨g, 3, none⟩ = some (.bool true) ∧ u1.cell? ⟨g, 4, none⟩ = some (.slice none 0 0) ∧ u1.cell? ⟨g, 5, none⟩ = some (.slice none 0 0) ∧ u1.cell? ⟨g', 0, none⟩ = some (.int .i32 m) ∧ u1.cell? ⟨g', 1, none⟩ = some (.string nmItem) ∧ u1.cell? ⟨g', 2, none⟩ = some (.iface q' p') ∧ u1.cell? ⟨g', 3, none⟩ = some (.bool true) ∧ u1.cell? ⟨g', 4, none⟩ = some (.slice none 0 0) ∧ u1.cell? ⟨g', 5, none⟩ = some (.slice none 0 0) from ⟨pw_cell_below hb Su0.out.1, pw_cell_below hb Su0.out.2.1, pw_cell_below hb Su0.out.2.2.1, pw_cell_below hb Su0.out.2.2.2.1, pw_cell_below hb Su0.out.2.2.2.2.1, pw_cell_below hb Su0.out.2.2.2.2.2.1, pw_cell_below hb Su0.out.2.2.2.2.2.2.1, pw_cell_below hb Su0.out.2.2.2.2.2.2.2.1, pw_cell_below hb Su0.out.2.2.2.2.2.2.2.2.1, pw_cell_below hb Su0.out.2.2.2.2.2.2.2.2.2.1, pw_cell_below hb Su0.out.2.2.2.2.2.2.2.2.2.2.1, pw_cell_below hb Su0.out.2.2.2.2.2.2.2.2.2.2.2⟩)
 have HRR := Aside0.mk hr
 clear hr
 clear hb
 refine ⟨_, rfl, ?_⟩
 refine hK.out _ _ Su1.out (fun hHeld => ?_)
 clear hK K
 refine no 147 ?_
 refine pu 22 148 8388607 ?_
 refine pu 23 4 16777215 ?_
 refine done_ (by kernel_rfl) ?_
 clear hHeld
 go_wp2
 go_ret
 exact ⟨⟨r, rfl, by rw [HP.out]; exact ⟨fun h => ⟨HM.out, (HRR.out.1 h).2.2⟩, fun h => HRR.out.2 ⟨by first | rfl | trivial, by first | rfl | trivial, h.2⟩⟩⟩, Hu1.out⟩
theorem dn_165 (n : Nat) (hD : DpC n) (hF : FdC n) (T T' : S28) (d d' : DT) (v v' : Value) (w : World) (ok ok' : Nat → Prop) (hT : TD (n + 1) T d) (hT' : TD (n + 1) T' d') (hI : DTIn w ok d v) (hI' : DTIn w ok' d' v') (hdis : ∀ k, ok k → ok' k → False) (ht : tyN d = 165) (ht' : tyN d' = 165) :
 Calls Tryz.prog 96 #[v, v'] w fun e w' => Tells e (d = d') ∧ Below w.heap.size w w' := by
 obtain ⟨P, hP⟩ : ∃ P : Prop, P = (d = d') := ⟨_, rfl⟩
 rw [← hP]
 obtain ⟨ds, rfl, hln, hs⟩ := TDs.struct_of (show TDs (TD n) T d from hT) ht rfl
 obtain ⟨ds', rfl, hln', hs'⟩ := TDs.struct_of (show TDs (TD n) T' d' from hT') ht' rfl
 simp only [DTIn, ptrAt] at hI hI'
 obtain ⟨g, A, c, mp, rfl, hk, hg, hc1, hc2, hr1⟩ := hI
 obtain ⟨g', A', c', mp', rfl, hk', hg', hc1', hc2', hr1'⟩ := hI'
 have HP := Aside0.mk (show P ↔ ds = ds' from by rw [hP]; simp)
 have HC := Aside0.mk (And.intro hD (And.intro hF hdis))
 have HX := Aside0.mk (And.intro (show FsAt w ok A ds from hr1) (And.intro (show FsAt w ok' A' ds' from hr1') (And.intro hs (And.intro hs' (And.intro hln hln')))))
 obtain ⟨y0, y1, y2, y3⟩ := cb4 hg
 obtain ⟨z0, z1, z2, z3⟩ := cb4 hg'
 clear hP hD hF hdis hr1 hr1' hs hs' hk hk' hg hg' hT hT' ht ht' hln hln' hc1 hc2 hc1' hc2'
 have hn154 := (asn_154 165 (.pointer (some ⟨g, 0, none⟩)) (by decide)).o
 have hn233 := (asn_233 165 (.pointer (some ⟨g, 0, none⟩)) (by decide)).o
 have hn180 := (asn_180 165 (.pointer (some ⟨g, 0, none⟩)) (by decide)).o
 have hn236 := (asn_236 165 (.pointer (some ⟨g, 0, none⟩)) (by decide)).o
 have hn158 := (asn_158 165 (.pointer (some ⟨g, 0, none⟩)) (by decide)).o
 have hy : ∀ W, (Instr.typeAssert (.iface 165 (.pointer (some ⟨g, 0, none⟩))) 56 165 true).run Tryz.prog W = .ok (.tuple #[.pointer (some ⟨g, 0, none⟩), .bool true]) W := asy_165 _
 have hy' : ∀ W, (Instr.typeAssert (.iface 165 (.pointer (some ⟨g', 0, none⟩))) 56 165 true).run Tryz.prog W = .ok (.tuple #[.pointer (some ⟨g', 0, none⟩), .bool true]) W := asy_165 _
 go_enter Tryz.func96, Tryz.ntmps96
 go_upto_region 25 with fail
 refine start_ (n := 24) (S := fun w' => w'.cell? ⟨g, 0, none⟩ = some (.slice A ds.length c) ∧ w'.cell? ⟨g, 1, none⟩ = some (.map mp) ∧ w'.cell? ⟨g, 2, none⟩ = some (.slice none 0 0) ∧ w'.cell? ⟨g, 3, none⟩ = some (.slice none 0 0) ∧ w'.cell? ⟨g', 0, none⟩ = some (.slice A' ds'.length c') ∧ w'.cell? ⟨g', 1, none⟩ = some (.map mp') ∧ w'.cell? ⟨g', 2, none⟩ = some (.slice none 0 0) ∧ w'.cell? ⟨g', 3, none⟩ = some (.slice none 0 0)) (ds := []) (ba 24 0) (by kernel_rfl) rfl rfl ⟨y0, y1, y2, y3, z0, z1, z2, z3⟩ (fun hHeld => ?_)
 generalize hw_ : w.drew = u0 at hHeld ⊢
 have Hu0 := Aside0.mk (show Below w.heap.size w u0 from by rw [← hw_]; exact b3_ (Below.refl _ _))
 clear hw_
 clear y0 y1 y2 y3 z0 z1 z2 z3
 have Su0 := Aside0.mk hHeld
 refine pu 0 157 1 ?_
 refine pu 1 158 3 ?_
 refine pu 2 159 7 ?_
 refine pu 3 160 15 ?_
 refine pu 4 161 31 ?_
 refine ta 5 162 63 ?_
 refine pu 6 163 127 ?_
 refine pu 7 164 255 ?_
 refine pu 8 165 511 ?_
 refine ta 9 166 1023 ?_
 refine one_ (i := 10) (N := some 167) (ba 24 2047) rfl rfl (by kernel_rfl) (by decide) (fun K hK => ?_)
 refine goes_ Tryz.func107 (by kernel_rfl) rfl #[.slice A ds.length c, .slice A' ds'.length c'] (by rfl) rfl rfl (by (try simp only [List.map_toArray, List.map_cons, List.map_nil]); first | done | rfl) ?_
 refine (fields107 n HC.out.2.1 ds ds' A A' c c' u0 ok ok' (HX.out.1.below Hu0.out) (HX.out.2.1.below Hu0.out) HX.out.2.2.2.2.1 HX.out.2.2.2.2.2 HX.out.2.2.1 HX.out.2.2.2.1 HC.out.2.2).mono ?_
 rintro e u1 ⟨⟨r, rfl, hr⟩, hb⟩
 have Hu1 := Aside0.mk (below_step Hu0.out hb)
 have Su1 := Aside0.mk (show u1.cell? ⟨g, 0, none⟩ = some (.slice A ds.length c) ∧ u1.cell? ⟨g, 1, none⟩ = some (.map mp) ∧ u1.cell? ⟨g, 2, none⟩ = some (.slice none 0 0) ∧ u1.cell? ⟨g, 3, none⟩ = some (.slice none 0 0) ∧ u1.cell? ⟨g', 0, none⟩ = some (.slice A' ds'.length c') ∧ u1.cell? ⟨g', 1, none⟩ = some (.map mp') ∧ u1.cell? ⟨g', 2, none⟩ = some (.slice none 0 0) ∧ u1.cell? ⟨g', 3, none⟩ = some (.slice none 0 0) from ⟨pw_cell_below hb Su0.out.1, pw_cell_below hb Su0.out.2.1, pw_cell_below hb Su0.out.2.2.1, pw_cell_below hb Su0.out.2.2.2.1, pw_cell_below hb Su0.out.2.2.2.2.1, pw_cell_below hb Su0.out.2.2.2.2.2.1, pw_cell_below hb Su0.out.2.2.2.2.2.2.1, pw_cell_below hb Su0.out.2.2.2.2.2.2.2⟩)
 have HRR := Aside0.mk hr
 clear hr
 clear hb
 refine ⟨_, rfl, ?_⟩
 refine hK.out _ _ Su1.out (fun hHeld => ?_)
 clear hK K
 refine no 167 ?_
 cases r with
 | false =>
  refine pu 11 168 4095 ?_
  refine pu 12 169 8191 ?_
  refine ou 13 170 16383 ?_
  refine ou 14 171 32767 ?_
  refine ou 15 172 65535 ?_
  refine ou 16 173 131071 ?_
  refine ou 17 174 262143 ?_
  refine ou 18 175 524287 ?_
  refine ou 19 176 1048575 ?_
  refine ou 20 177 2097151 ?_
  refine ou 21 178 4194303 ?_
  refine pu 22 179 8388607 ?_
  refine pu 23 4 16777215 ?_
  refine done_ (by kernel_rfl) ?_
  clear hHeld
  go_wp2
  go_ret
  exact ⟨tells_no (fun h => by have := HRR.out.2 (HP.out.1 h); simp at this), Hu1.out⟩
 | true =>
  refine pu 11 168 4095 ?_
  refine pu 12 169 8191 ?_
  refine pu 13 170 16383 ?_
  refine pu 14 171 32767 ?_
  refine pu 15 172 65535 ?_
  refine ta 16 173 131071 ?_
  refine pu 17 174 262143 ?_
  refine pu 18 175 524287 ?_
  refine pu 19 176 1048575 ?_
  refine ta 20 177 2097151 ?_
  refine one_ (i := 21) (N := some 178) (ba 24 4194303) rfl rfl (by kernel_rfl) (by decide) (fun K hK => ?_)
  refine goes_ Tryz.func108 (by kernel_rfl) rfl #[.agg #[.slice none 0 0, .slice none 0 0], .agg #[.slice none 0 0, .slice none 0 0]] (by rfl) rfl rfl (by (try simp only [List.map_toArray, List.map_cons, List.map_nil]); first | done | rfl) ?_
  refine (meta108 u1).mono ?_
  rintro e u2 ⟨rfl, hb⟩
  have Hu2 := Aside0.mk (below_step Hu1.out hb)
  have Su2 := Aside0.mk (show u2.cell? ⟨g, 0, none⟩ = some (.slice A ds.length c) ∧ u2.cell? ⟨g, 1, none⟩ = some (.map mp) ∧ u2.cell? ⟨g, 2, none⟩ = some (.slice none 0 0) ∧ u2.cell? ⟨g, 3, none⟩ = some (.slice none 0 0) ∧ u2.cell? ⟨g', 0, none⟩ = some (.slice A' ds'.length c') ∧ u2.cell? ⟨g', 1, none⟩ = some (.map mp') ∧ u2.cell? ⟨g', 2, none⟩ = some (.slice none 0 0) ∧ u2.cell? ⟨g', 3, none⟩ = some (.slice none 0 0) from ⟨pw_cell_below hb Su1.out.1, pw_cell_below hb Su1.out.2.1, pw_cell_below hb Su1.out.2.2.1, pw_cell_below hb Su1.out.2.2.2.1, pw_cell_below hb Su1.out.2.2.2.2.1, pw_cell_below hb Su1.out.2.2.2.2.2.1, pw_cell_below hb Su1.out.2.2.2.2.2.2.1, pw_cell_below hb Su1.out.2.2.2.2.2.2.2⟩)
  clear hb
  refine ⟨_, rfl, ?_⟩
  refine hK.out _ _ Su2.out (fun hHeld => ?_)
  clear hK K
  refine no 178 ?_
  refine pu 22 179 8388607 ?_
  refine pu 23 4 16777215 ?_
  refine done_ (by kernel_rfl) ?_
  clear hHeld
  go_wp2
  go_ret
  exact ⟨tells_yes (HP.out.2 (HRR.out.1 (by first | rfl | trivial))), Hu2.out⟩
theorem dn_161 (n : Nat) (hD : DpC n) (hF : FdC n) (T T' : S28) (d d' : DT) (v v' : Value) (w : World) (ok ok' : Nat → Prop) (hT : TD (n + 1) T d) (hT' : TD (n + 1) T' d') (hI : DTIn w ok d v) (hI' : DTIn w ok' d' v') (hdis : ∀ k, ok k → ok' k → False) (ht : tyN d = 161) (ht' : tyN d' = 161) :
 Calls Tryz.prog 96 #[v, v'] w fun e w' => Tells e (d = d') ∧ Below w.heap.size w w' := by
 obtain ⟨P, hP⟩ : ∃ P : Prop, P = (d = d') := ⟨_, rfl⟩
 rw [← hP]
 obtain ⟨K, V, dk, dv, fl, rfl, _, _, E, hs⟩ := TDs.map_of (show TDs (TD n) T d from hT) ht rfl
 obtain ⟨K', V', dk', dv', fl', rfl, _, _, E', hs'⟩ := TDs.map_of (show TDs (TD n) T' d' from hT') ht' rfl
 obtain ⟨d1, hd1⟩ : ∃ d, d = DT.struct [.mk nmKey dk false, .mk nmValue dv true] := ⟨_, rfl⟩
 obtain ⟨d2, hd2⟩ : ∃ d, d = DT.struct [.mk nmKey dk' false, .mk nmValue dv' true] := ⟨_, rfl⟩
 rw [← hd1] at hI hs hP
 rw [← hd2] at hI' hs' hP
 clear hd1 hd2
 simp only [DTIn, DFIn, ptrAt] at hI hI'
 obtain ⟨g, b, cs, rfl, hk, hkb, hg0, hg, x, rfl, hx⟩ := hI
 obtain ⟨g', b', cs', rfl, hk', hkb', hg0', hg', x', rfl, hx'⟩ := hI'
 obtain ⟨q, a, rfl⟩ := hx.form
 obtain ⟨p, hp⟩ : ∃ p, p = Value.pointer (some a) := ⟨_, rfl⟩
 rw [← hp] at hx hg
 clear hp
 obtain ⟨q', a', rfl⟩ := hx'.form
 obtain ⟨p', hp'⟩ : ∃ p, p = Value.pointer (some a') := ⟨_, rfl⟩
 rw [← hp'] at hx' hg'
 clear hp'
 have HP := Aside0.mk (show P ↔ (fl = fl' ∧ d1 = d2) from by rw [hP]; simp [and_comm])
 have HC := Aside0.mk (And.intro hD (And.intro hF hdis))
 have HX := Aside0.mk (And.intro hx (And.intro hx' (And.intro hs hs')))
 have f0 : w.cell? ⟨g, 0, none⟩ = some (.pointer (some ⟨b, 0, none⟩)) := (blk_cell hg0 0).trans rfl
 have f1 : w.cell? ⟨g, 1, none⟩ = some (.bool fl) := (blk_cell hg0 1).trans rfl
 have k0 : w.cell? ⟨g', 0, none⟩ = some (.pointer (some ⟨b', 0, none⟩)) := (blk_cell hg0' 0).trans rfl
 have k1 : w.cell? ⟨g', 1, none⟩ = some (.bool fl') := (blk_cell hg0' 1).trans rfl
 obtain ⟨y0, y1, y2, y3, y4⟩ := cb5 hg
 obtain ⟨z0, z1, z2, z3, z4⟩ := cb5 hg'
 clear hP hD hF hdis hx hx' hs hs' hk hk' hkb hkb' hg hg' hg0 hg0' hT hT' ht ht'
 have hn154 := (asn_154 161 (.pointer (some ⟨g, 0, none⟩)) (by decide)).o
 have hn233 := (asn_233 161 (.pointer (some ⟨g, 0, none⟩)) (by decide)).o
 have hn180 := (asn_180 161 (.pointer (some ⟨g, 0, none⟩)) (by decide)).o
 have hn236 := (asn_236 161 (.pointer (some ⟨g, 0, none⟩)) (by decide)).o
 have hn158 := (asn_158 161 (.pointer (some ⟨g, 0, none⟩)) (by decide)).o
 have hn165 := (asn_165 161 (.pointer (some ⟨g, 0, none⟩)) (by decide)).o
 have hy : ∀ W, (Instr.typeAssert (.iface 161 (.pointer (some ⟨g, 0, none⟩))) 56 161 true).run Tryz.prog W = .ok (.tuple #[.pointer (some ⟨g, 0, none⟩), .bool true]) W := asy_161 _
 have hy' : ∀ W, (Instr.typeAssert (.iface 161 (.pointer (some ⟨g', 0, none⟩))) 56 161 true).run Tryz.prog W = .ok (.tuple #[.pointer (some ⟨g', 0, none⟩), .bool true]) W := asy_161 _
 by_cases hm : fl = fl'
 rotate_left
 ·have qb : (fl == fl') = false := by simpa using hm
  have HM := Aside0.mk hm
  clear hm
  go_enter Tryz.func96, Tryz.ntmps96
  go_upto_region 29 with fail
  refine start_ (n := 30) (S := fun w' => w'.cell? ⟨g, 0, none⟩ = some (.pointer (some ⟨b, 0, none⟩)) ∧ w'.cell? ⟨g, 1, none⟩ = some (.bool fl) ∧ w'.cell? ⟨g', 0, none⟩ = some (.pointer (some ⟨b', 0, none⟩)) ∧ w'.cell? ⟨g', 1, none⟩ = some (.bool fl') ∧ w'.cell? ⟨b, 0, none⟩ = some (.string nmEntries) ∧ w'.cell? ⟨b, 1, none⟩ = some (.iface q p) ∧ w'.cell? ⟨b, 2, none⟩ = some (.bool false) ∧ w'.cell? ⟨b, 3, none⟩ = some (.slice none 0 0) ∧ w'.cell? ⟨b, 4, none⟩ = some (.slice none 0 0) ∧ w'.cell? ⟨b', 0, none⟩ = some (.string nmEntries) ∧ w'.cell? ⟨b', 1, none⟩ = some (.iface q' p') ∧ w'.cell? ⟨b', 2, none⟩ = some (.bool false) ∧ w'.cell? ⟨b', 3, none⟩ = some (.slice none 0 0) ∧ w'.cell? ⟨b', 4, none⟩ = some (.slice none 0 0)) (ds := []) (ba 30 0) (by kernel_rfl) rfl rfl ⟨f0, f1, k0, k1, y0, y1, y2, y3, y4, z0, z1, z2, z3, z4⟩ (fun hHeld => ?_)
  generalize hw_ : w.drew = u0 at hHeld ⊢
  have Hu0 := Aside0.mk (show Below w.heap.size w u0 from by rw [← hw_]; exact b3_ (Below.refl _ _))
  clear hw_
  clear f0 f1 k0 k1 y0 y1 y2 y3 y4 z0 z1 z2 z3 z4
  have Su0 := Aside0.mk hHeld
  refine pu 0 188 1 ?_
  refine pu 1 189 3 ?_
  refine pu 2 190 7 ?_
  refine pu 3 191 15 ?_
  refine pu 4 192 31 ?_
  refine ta 5 193 63 ?_
  refine pu 6 194 127 ?_
  refine pu 7 195 255 ?_
  refine pu 8 196 511 ?_
  refine ta 9 197 1023 ?_
  refine pu 10 198 2047 ?_
  refine pu 11 199 4095 ?_
  refine pu 12 200 8191 ?_
  refine ou 13 201 16383 ?_
  refine ou 14 202 32767 ?_
  refine ou 15 203 65535 ?_
  refine ou 16 204 131071 ?_
  refine ou 17 205 262143 ?_
  refine ou 18 206 524287 ?_
  refine ou 19 207 1048575 ?_
  refine ou 20 208 2097151 ?_
  refine ou 21 209 4194303 ?_
  refine ou 22 210 8388607 ?_
  refine ou 23 211 16777215 ?_
  refine ou 24 212 33554431 ?_
  refine ou 25 213 67108863 ?_
  refine ou 26 214 134217727 ?_
  refine ou 27 215 268435455 ?_
  refine pu 28 216 536870911 ?_
  refine pu 29 4 1073741823 ?_
  refine done_ (by kernel_rfl) ?_
  clear hHeld
  go_wp2
  go_ret
  exact ⟨tells_no (fun h => by rw [HP.out] at h; exact HM.out h.1), Hu0.out⟩
 have HM := Aside0.mk hm
 rw [← hm] at k1
 clear hm
 go_enter Tryz.func96, Tryz.ntmps96
 go_upto_region 29 with fail
 refine start_ (n := 30) (S := fun w' => w'.cell? ⟨g, 0, none⟩ = some (.pointer (some ⟨b, 0, none⟩)) ∧ w'.cell? ⟨g, 1, none⟩ = some (.bool fl) ∧ w'.cell? ⟨g', 0, none⟩ = some (.pointer (some ⟨b', 0, none⟩)) ∧ w'.cell? ⟨g', 1, none⟩ = some (.bool fl) ∧ w'.cell? ⟨b, 0, none⟩ = some (.string nmEntries) ∧ w'.cell? ⟨b, 1, none⟩ = some (.iface q p) ∧ w'.cell? ⟨b, 2, none⟩ = some (.bool false) ∧ w'.cell? ⟨b, 3, none⟩ = some (.slice none 0 0) ∧ w'.cell? ⟨b, 4, none⟩ = some (.slice none 0 0) ∧ w'.cell? ⟨b', 0, none⟩ = some (.string nmEntries) ∧ w'.cell? ⟨b', 1, none⟩ = some (.iface q' p') ∧ w'.cell? ⟨b', 2, none⟩ = some (.bool false) ∧ w'.cell? ⟨b', 3, none⟩ = some (.slice none 0 0) ∧ w'.cell? ⟨b', 4, none⟩ = some (.slice none 0 0)) (ds := []) (ba 30 0) (by kernel_rfl) rfl rfl ⟨f0, f1, k0, k1, y0, y1, y2, y3, y4, z0, z1, z2, z3, z4⟩ (fun hHeld => ?_)
 generalize hw_ : w.drew = u0 at hHeld ⊢
 have Hu0 := Aside0.mk (show Below w.heap.size w u0 from by rw [← hw_]; exact b3_ (Below.refl _ _))
 clear hw_
 clear f0 f1 k0 k1 y0 y1 y2 y3 y4 z0 z1 z2 z3 z4
 have Su0 := Aside0.mk hHeld
 refine pu 0 188 1 ?_
 refine pu 1 189 3 ?_
 refine pu 2 190 7 ?_
 refine pu 3 191 15 ?_
 refine pu 4 192 31 ?_
 refine ta 5 193 63 ?_
 refine pu 6 194 127 ?_
 refine pu 7 195 255 ?_
 refine pu 8 196 511 ?_
 refine ta 9 197 1023 ?_
 refine pu 10 198 2047 ?_
 refine pu 11 199 4095 ?_
 refine pu 12 200 8191 ?_
 refine pu 13 201 16383 ?_
 refine pu 14 202 32767 ?_
 refine pu 15 203 65535 ?_
 refine ta 16 204 131071 ?_
 refine pu 17 205 262143 ?_
 refine pu 18 206 524287 ?_
 refine ta 19 207 1048575 ?_
 refine pu 20 208 2097151 ?_
 refine pu 21 209 4194303 ?_
 refine pu 22 210 8388607 ?_
 refine ta 23 211 16777215 ?_
 refine pu 24 212 33554431 ?_
 refine pu 25 213 67108863 ?_
 refine ta 26 214 134217727 ?_
 refine one_ (i := 27) (N := some 215) (ba 30 268435455) rfl rfl (by kernel_rfl) (by decide) (fun K hK => ?_)
 refine goes_ Tryz.func106 (by kernel_rfl) rfl #[.agg #[.string nmEntries, .iface q p, .bool false, .slice none 0 0, .slice none 0 0], .agg #[.string nmEntries, .iface q' p', .bool false, .slice none 0 0, .slice none 0 0]] (by rfl) rfl rfl (by (try simp only [List.map_toArray, List.map_cons, List.map_nil]); first | done | rfl) ?_
 refine (HC.out.2.1 nmEntries nmEntries false false _ _ d1 d2 _ _ u0 ok ok' HX.out.2.2.1 HX.out.2.2.2 (HX.out.1.below Hu0.out) (HX.out.2.1.below Hu0.out) HC.out.2.2).mono ?_
 rintro e u1 ⟨⟨r, rfl, hr⟩, hb⟩
 have Hu1 := Aside0.mk (below_step Hu0.out hb)
 have Su1 := Aside0.mk (show u1.cell? ⟨g, 0, none⟩ = some (.pointer (some ⟨b, 0, none⟩)) ∧ u1.cell? ⟨g, 1, none⟩ = some (.bool fl) ∧ u1.cell? ⟨g', 0, none⟩ = some (.pointer (some ⟨b', 0, none⟩)) ∧ u1.cell? ⟨g', 1, none⟩ = some (.bool fl) ∧ u1.cell? ⟨b, 0, none⟩ = some (.string nmEntries) ∧ u1.cell? ⟨b, 1, none⟩ = some (.iface q p) ∧ u1.cell? ⟨b, 2, none⟩ = some (.bool false) ∧ u1.cell? ⟨b, 3, none⟩ = some (.slice none 0 0) ∧ u1.cell? ⟨b, 4, none⟩ = some (.slice none 0 0) ∧ u1.cell? ⟨b', 0, none⟩ = some (.string nmEntries) ∧ u1.cell? ⟨b', 1, none⟩ = some (.iface q' p') ∧ u1.cell? ⟨b', 2, none⟩ = some (.bool false) ∧ u1.cell? ⟨b', 3, none⟩ = some (.slice none 0 0) ∧ u1.cell? ⟨b', 4, none⟩ = some (.slice none 0 0) from ⟨pw_cell_below hb Su0.out.1, pw_cell_below hb Su0.out.2.1, pw_cell_below hb Su0.out.2.2.1, pw_cell_below hb Su0.out.2.2.2.1, pw_cell_below hb Su0.out.2.2.2.2.1, pw_cell_below hb Su0.out.2.2.2.2.2.1, pw_cell_below hb Su0.out.2.2.2.2.2.2.1, pw_cell_below hb Su0.out.2.2.2.2.2.2.2.1, pw_cell_below hb Su0.out.2.2.2.2.2.2.2.2.1, pw_cell_below hb Su0.out.2.2.2.2.2.2.2.2.2.1, pw_cell_below hb Su0.out.2.2.2.2.2.2.2.2.2.2.1, pw_cell_below hb Su0.out.2.2.2.2.2.2.2.2.2.2.2.1, pw_cell_below hb Su0.out.2.2.2.2.2.2.2.2.2.2.2.2.1, pw_cell_below hb Su0.out.2.2.2.2.2.2.2.2.2.2.2.2.2⟩)
 have HRR := Aside0.mk hr
 clear hr
 clear hb
 refine ⟨_, rfl, ?_⟩
 refine hK.out _ _ Su1.out (fun hHeld => ?_)
 clear hK K
 refine no 215 ?_
 refine pu 28 216 536870911 ?_
 refine pu 29 4 1073741823 ?_
 refine done_ (by kernel_rfl) ?_
 clear hHeld
 go_wp2
 go_ret
 exact ⟨⟨r, rfl, by rw [HP.out]; exact ⟨fun h => ⟨HM.out, (HRR.out.1 h).2.2⟩, fun h => HRR.out.2 ⟨by first | rfl | trivial, by first | rfl | trivial, h.2⟩⟩⟩, Hu1.out⟩
theorem dn_224 (n : Nat) (hD : DpC n) (hF : FdC n) (T T' : S28) (d d' : DT) (v v' : Value) (w : World) (ok ok' : Nat → Prop) (hT : TD (n + 1) T d) (hT' : TD (n + 1) T' d') (hI : DTIn w ok d v) (hI' : DTIn w ok' d' v') (hdis : ∀ k, ok k → ok' k → False) (ht : tyN d = 224) (ht' : tyN d' = 224) :
 Calls Tryz.prog 96 #[v, v'] w fun e w' => Tells e (d = d') ∧ Below w.heap.size w w' := by
 obtain ⟨P, hP⟩ : ∃ P : Prop, P = (d = d') := ⟨_, rfl⟩
 rw [← hP]
 obtain ⟨ds, ids, rfl, _, hln, hid, _, _, hs⟩ := TDs.union_of (show TDs (TD n) T d from hT) ht (by decide)
 obtain ⟨ds', ids', rfl, _, hln', hid', _, _, hs'⟩ := TDs.union_of (show TDs (TD n) T' d' from hT') ht' (by decide)
 simp only [DTIn, ptrAt] at hI hI'
 obtain ⟨_, g, A, c, B, e, rfl, hk, hg, _, _, _, _, hr1, hr2⟩ := hI
 obtain ⟨_, g', A', c', B', e', rfl, hk', hg', _, _, _, _, hr1', hr2'⟩ := hI'
 have HP := Aside0.mk (show P ↔ (ds = ds' ∧ ids = ids') from by rw [hP]; simp)
 have HC := Aside0.mk (And.intro hD (And.intro hF hdis))
 have HX := Aside0.mk (And.intro (show FsAt w ok A ds from hr1) (And.intro (show FsAt w ok' A' ds' from hr1') (And.intro hs (And.intro hs' (And.intro hln hln')))))
 have HY := Aside0.mk (And.intro (show CsAt w ok B ids from hr2) (And.intro (show CsAt w ok' B' ids' from hr2') (And.intro (show ids.length ≤ 100 by omega) (show ids'.length ≤ 100 by omega))))
 have y0 : w.cell? ⟨g, 0, none⟩ = some (.slice A ds.length c) := (blk_cell hg 0).trans rfl
 have y1 : w.cell? ⟨g, 1, none⟩ = some (.slice B ids.length e) := (blk_cell hg 1).trans rfl
 have z0 : w.cell? ⟨g', 0, none⟩ = some (.slice A' ds'.length c') := (blk_cell hg' 0).trans rfl
 have z1 : w.cell? ⟨g', 1, none⟩ = some (.slice B' ids'.length e') := (blk_cell hg' 1).trans rfl
 clear hP hD hF hdis hr1 hr1' hr2 hr2' hs hs' hk hk' hg hg' hT hT' ht ht' hln hln' hid hid'
 have hn154 := (asn_154 224 (.pointer (some ⟨g, 0, none⟩)) (by decide)).o
 have hn233 := (asn_233 224 (.pointer (some ⟨g, 0, none⟩)) (by decide)).o
 have hn180 := (asn_180 224 (.pointer (some ⟨g, 0, none⟩)) (by decide)).o
 have hn236 := (asn_236 224 (.pointer (some ⟨g, 0, none⟩)) (by decide)).o
 have hn158 := (asn_158 224 (.pointer (some ⟨g, 0, none⟩)) (by decide)).o
 have hn165 := (asn_165 224 (.pointer (some ⟨g, 0, none⟩)) (by decide)).o
 have hn161 := (asn_161 224 (.pointer (some ⟨g, 0, none⟩)) (by decide)).o
 have hy : ∀ W, (Instr.typeAssert (.iface 224 (.pointer (some ⟨g, 0, none⟩))) 56 224 true).run Tryz.prog W = .ok (.tuple #[.pointer (some ⟨g, 0, none⟩), .bool true]) W := asy_224 _
 have hy' : ∀ W, (Instr.typeAssert (.iface 224 (.pointer (some ⟨g', 0, none⟩))) 56 224 true).run Tryz.prog W = .ok (.tuple #[.pointer (some ⟨g', 0, none⟩), .bool true]) W := asy_224 _
 go_enter Tryz.func96, Tryz.ntmps96
 go_upto_region 33 with fail
 refine start_ (n := 28) (S := fun w' => w'.cell? ⟨g, 0, none⟩ = some (.slice A ds.length c) ∧ w'.cell? ⟨g, 1, none⟩ = some (.slice B ids.length e) ∧ w'.cell? ⟨g', 0, none⟩ = some (.slice A' ds'.length c') ∧ w'.cell? ⟨g', 1, none⟩ = some (.slice B' ids'.length e')) (ds := []) (ba 28 0) (by kernel_rfl) rfl rfl ⟨y0, y1, z0, z1⟩ (fun hHeld => ?_)
 generalize hw_ : w.drew = u0 at hHeld ⊢
 have Hu0 := Aside0.mk (show Below w.heap.size w u0 from by rw [← hw_]; exact b3_ (Below.refl _ _))
 clear hw_
 clear y0 y1 z0 z1
 have Su0 := Aside0.mk hHeld
 refine pu 0 225 1 ?_
 refine pu 1 226 3 ?_
 refine pu 2 227 7 ?_
 refine pu 3 228 15 ?_
 refine pu 4 229 31 ?_
 refine pu 5 230 63 ?_
 refine ta 6 231 127 ?_
 refine pu 7 232 255 ?_
 refine pu 8 233 511 ?_
 refine pu 9 234 1023 ?_
 refine pu 10 235 2047 ?_
 refine ta 11 236 4095 ?_
 refine one_ (i := 12) (N := some 237) (ba 28 8191) rfl rfl (by kernel_rfl) (by decide) (fun K hK => ?_)
 refine goes_ Tryz.func107 (by kernel_rfl) rfl #[.slice A ds.length c, .slice A' ds'.length c'] (by rfl) rfl rfl (by (try simp only [List.map_toArray, List.map_cons, List.map_nil]); first | done | rfl) ?_
 refine (fields107 n HC.out.2.1 ds ds' A A' c c' u0 ok ok' (HX.out.1.below Hu0.out) (HX.out.2.1.below Hu0.out) HX.out.2.2.2.2.1 HX.out.2.2.2.2.2 HX.out.2.2.1 HX.out.2.2.2.1 HC.out.2.2).mono ?_
 rintro e u1 ⟨⟨r, rfl, hr⟩, hb⟩
 have Hu1 := Aside0.mk (below_step Hu0.out hb)
 have Su1 := Aside0.mk (show u1.cell? ⟨g, 0, none⟩ = some (.slice A ds.length c) ∧ u1.cell? ⟨g, 1, none⟩ = some (.slice B ids.length e) ∧ u1.cell? ⟨g', 0, none⟩ = some (.slice A' ds'.length c') ∧ u1.cell? ⟨g', 1, none⟩ = some (.slice B' ids'.length e') from ⟨pw_cell_below hb Su0.out.1, pw_cell_below hb Su0.out.2.1, pw_cell_below hb Su0.out.2.2.1, pw_cell_below hb Su0.out.2.2.2⟩)
 have HRR := Aside0.mk hr
 clear hr
 clear hb
 refine ⟨_, rfl, ?_⟩
 refine hK.out _ _ Su1.out (fun hHeld => ?_)
 clear hK K
 refine no 237 ?_
 cases r with
 | false =>
  refine pu 13 238 16383 ?_
  refine pu 14 239 32767 ?_
  refine ou 15 240 65535 ?_
  refine ou 16 241 131071 ?_
  refine ou 17 242 262143 ?_
  refine ou 18 243 524287 ?_
  refine ou 19 244 1048575 ?_
  refine ou 20 245 2097151 ?_
  refine ou 21 246 4194303 ?_
  refine ou 22 247 8388607 ?_
  refine ou 23 248 16777215 ?_
  refine ou 24 249 33554431 ?_
  refine ou 25 250 67108863 ?_
  refine pu 26 251 134217727 ?_
  refine pu 27 4 268435455 ?_
  refine done_ (by kernel_rfl) ?_
  clear hHeld
  go_wp2
  go_ret
  exact ⟨tells_no (fun h => by have := HRR.out.2 (HP.out.1 h).1; simp at this), Hu1.out⟩
 | true =>
  refine pu 13 238 16383 ?_
  refine pu 14 239 32767 ?_
  refine pu 15 240 65535 ?_
  refine pu 16 241 131071 ?_
  refine pu 17 242 262143 ?_
  refine pu 18 243 524287 ?_
  refine ta 19 244 1048575 ?_
  refine pu 20 245 2097151 ?_
  refine pu 21 246 4194303 ?_
  refine pu 22 247 8388607 ?_
  refine pu 23 248 16777215 ?_
  refine ta 24 249 33554431 ?_
  refine one_ (i := 25) (N := some 250) (ba 28 67108863) rfl rfl (by kernel_rfl) (by decide) (fun K hK => ?_)
  refine goes_ Tryz.func109 (by kernel_rfl) rfl #[.slice B ids.length e, .slice B' ids'.length e'] (by rfl) rfl rfl (by (try simp only [List.map_toArray, List.map_cons, List.map_nil]); first | done | rfl) ?_
  refine (codes109 ids ids' B B' e e' u1 ok ok' (HY.out.1.below Hu1.out) (HY.out.2.1.below Hu1.out) HY.out.2.2.1 HY.out.2.2.2).mono ?_
  rintro e u2 ⟨⟨s, rfl, hs⟩, hb⟩
  have Hu2 := Aside0.mk (below_step Hu1.out hb)
  have Su2 := Aside0.mk (show u2.cell? ⟨g, 0, none⟩ = some (.slice A ds.length c) ∧ u2.cell? ⟨g, 1, none⟩ = some (.slice B ids.length e) ∧ u2.cell? ⟨g', 0, none⟩ = some (.slice A' ds'.length c') ∧ u2.cell? ⟨g', 1, none⟩ = some (.slice B' ids'.length e') from ⟨pw_cell_below hb Su1.out.1, pw_cell_below hb Su1.out.2.1, pw_cell_below hb Su1.out.2.2.1, pw_cell_below hb Su1.out.2.2.2⟩)
  have HSS := Aside0.mk hs
  clear hs
  clear hb
  refine ⟨_, rfl, ?_⟩
  refine hK.out _ _ Su2.out (fun hHeld => ?_)
  clear hK K
  refine no 250 ?_
  refine pu 26 251 134217727 ?_
  refine pu 27 4 268435455 ?_
  refine done_ (by kernel_rfl) ?_
  clear hHeld
  go_wp2
  go_ret
  exact ⟨⟨s, rfl, by rw [HP.out]; exact ⟨fun h => ⟨HRR.out.1 (by first | rfl | trivial), HSS.out.1 h⟩, fun h => HSS.out.2 h.2⟩⟩, Hu2.out⟩
theorem dn_226 (n : Nat) (hD : DpC n) (hF : FdC n) (T T' : S28) (d d' : DT) (v v' : Value) (w : World) (ok ok' : Nat → Prop) (hT : TD (n + 1) T d) (hT' : TD (n + 1) T' d') (hI : DTIn w ok d v) (hI' : DTIn w ok' d' v') (hdis : ∀ k, ok k → ok' k → False) (ht : tyN d = 226) (ht' : tyN d' = 226) :
 Calls Tryz.prog 96 #[v, v'] w fun e w' => Tells e (d = d') ∧ Below w.heap.size w w' := by
 obtain ⟨P, hP⟩ : ∃ P : Prop, P = (d = d') := ⟨_, rfl⟩
 rw [← hP]
 obtain ⟨ds, ids, rfl, _, hln, hid, _, _, hs⟩ := TDs.union_of (show TDs (TD n) T d from hT) ht (by decide)
 obtain ⟨ds', ids', rfl, _, hln', hid', _, _, hs'⟩ := TDs.union_of (show TDs (TD n) T' d' from hT') ht' (by decide)
 simp only [DTIn, ptrAt] at hI hI'
 obtain ⟨_, g, A, c, B, e, rfl, hk, hg, _, _, _, _, hr1, hr2⟩ := hI
 obtain ⟨_, g', A', c', B', e', rfl, hk', hg', _, _, _, _, hr1', hr2'⟩ := hI'
 have HP := Aside0.mk (show P ↔ (ds = ds' ∧ ids = ids') from by rw [hP]; simp)
 have HC := Aside0.mk (And.intro hD (And.intro hF hdis))
 have HX := Aside0.mk (And.intro (show FsAt w ok A ds from hr1) (And.intro (show FsAt w ok' A' ds' from hr1') (And.intro hs (And.intro hs' (And.intro hln hln')))))
 have HY := Aside0.mk (And.intro (show CsAt w ok B ids from hr2) (And.intro (show CsAt w ok' B' ids' from hr2') (And.intro (show ids.length ≤ 100 by omega) (show ids'.length ≤ 100 by omega))))
 have y0 : w.cell? ⟨g, 0, none⟩ = some (.slice A ds.length c) := (blk_cell hg 0).trans rfl
 have y1 : w.cell? ⟨g, 1, none⟩ = some (.slice B ids.length e) := (blk_cell hg 1).trans rfl
 have z0 : w.cell? ⟨g', 0, none⟩ = some (.slice A' ds'.length c') := (blk_cell hg' 0).trans rfl
 have z1 : w.cell? ⟨g', 1, none⟩ = some (.slice B' ids'.length e') := (blk_cell hg' 1).trans rfl
 clear hP hD hF hdis hr1 hr1' hr2 hr2' hs hs' hk hk' hg hg' hT hT' ht ht' hln hln' hid hid'
 have hn154 := (asn_154 226 (.pointer (some ⟨g, 0, none⟩)) (by decide)).o
 have hn233 := (asn_233 226 (.pointer (some ⟨g, 0, none⟩)) (by decide)).o
 have hn180 := (asn_180 226 (.pointer (some ⟨g, 0, none⟩)) (by decide)).o
 have hn236 := (asn_236 226 (.pointer (some ⟨g, 0, none⟩)) (by decide)).o
 have hn158 := (asn_158 226 (.pointer (some ⟨g, 0, none⟩)) (by decide)).o
 have hn165 := (asn_165 226 (.pointer (some ⟨g, 0, none⟩)) (by decide)).o
 have hn161 := (asn_161 226 (.pointer (some ⟨g, 0, none⟩)) (by decide)).o
 have hn224 := (asn_224 226 (.pointer (some ⟨g, 0, none⟩)) (by decide)).o
 have hy : ∀ W, (Instr.typeAssert (.iface 226 (.pointer (some ⟨g, 0, none⟩))) 56 226 true).run Tryz.prog W = .ok (.tuple #[.pointer (some ⟨g, 0, none⟩), .bool true]) W := asy_226 _
 have hy' : ∀ W, (Instr.typeAssert (.iface 226 (.pointer (some ⟨g', 0, none⟩))) 56 226 true).run Tryz.prog W = .ok (.tuple #[.pointer (some ⟨g', 0, none⟩), .bool true]) W := asy_226 _
 go_enter Tryz.func96, Tryz.ntmps96
 go_upto_region 37 with fail
 refine start_ (n := 28) (S := fun w' => w'.cell? ⟨g, 0, none⟩ = some (.slice A ds.length c) ∧ w'.cell? ⟨g, 1, none⟩ = some (.slice B ids.length e) ∧ w'.cell? ⟨g', 0, none⟩ = some (.slice A' ds'.length c') ∧ w'.cell? ⟨g', 1, none⟩ = some (.slice B' ids'.length e')) (ds := []) (ba 28 0) (by kernel_rfl) rfl rfl ⟨y0, y1, z0, z1⟩ (fun hHeld => ?_)
 generalize hw_ : w.drew = u0 at hHeld ⊢
 have Hu0 := Aside0.mk (show Below w.heap.size w u0 from by rw [← hw_]; exact b3_ (Below.refl _ _))
 clear hw_
 clear y0 y1 z0 z1
 have Su0 := Aside0.mk hHeld
 refine pu 0 260 1 ?_
 refine pu 1 261 3 ?_
 refine pu 2 262 7 ?_
 refine pu 3 263 15 ?_
 refine pu 4 264 31 ?_
 refine pu 5 265 63 ?_
 refine ta 6 266 127 ?_
 refine pu 7 267 255 ?_
 refine pu 8 268 511 ?_
 refine pu 9 269 1023 ?_
 refine pu 10 270 2047 ?_
 refine ta 11 271 4095 ?_
 refine one_ (i := 12) (N := some 272) (ba 28 8191) rfl rfl (by kernel_rfl) (by decide) (fun K hK => ?_)
 refine goes_ Tryz.func107 (by kernel_rfl) rfl #[.slice A ds.length c, .slice A' ds'.length c'] (by rfl) rfl rfl (by (try simp only [List.map_toArray, List.map_cons, List.map_nil]); first | done | rfl) ?_
 refine (fields107 n HC.out.2.1 ds ds' A A' c c' u0 ok ok' (HX.out.1.below Hu0.out) (HX.out.2.1.below Hu0.out) HX.out.2.2.2.2.1 HX.out.2.2.2.2.2 HX.out.2.2.1 HX.out.2.2.2.1 HC.out.2.2).mono ?_
 rintro e u1 ⟨⟨r, rfl, hr⟩, hb⟩
 have Hu1 := Aside0.mk (below_step Hu0.out hb)
 have Su1 := Aside0.mk (show u1.cell? ⟨g, 0, none⟩ = some (.slice A ds.length c) ∧ u1.cell? ⟨g, 1, none⟩ = some (.slice B ids.length e) ∧ u1.cell? ⟨g', 0, none⟩ = some (.slice A' ds'.length c') ∧ u1.cell? ⟨g', 1, none⟩ = some (.slice B' ids'.length e') from ⟨pw_cell_below hb Su0.out.1, pw_cell_below hb Su0.out.2.1, pw_cell_below hb Su0.out.2.2.1, pw_cell_below hb Su0.out.2.2.2⟩)
 have HRR := Aside0.mk hr
 clear hr
 clear hb
 refine ⟨_, rfl, ?_⟩
 refine hK.out _ _ Su1.out (fun hHeld => ?_)
 clear hK K
 refine no 272 ?_
 cases r with
 | false =>
  refine pu 13 273 16383 ?_
  refine pu 14 274 32767 ?_
  refine ou 15 275 65535 ?_
  refine ou 16 276 131071 ?_
  refine ou 17 277 262143 ?_
  refine ou 18 278 524287 ?_
  refine ou 19 279 1048575 ?_
  refine ou 20 280 2097151 ?_
  refine ou 21 281 4194303 ?_
  refine ou 22 282 8388607 ?_
  refine ou 23 283 16777215 ?_
  refine ou 24 284 33554431 ?_
  refine ou 25 285 67108863 ?_
  refine pu 26 286 134217727 ?_
  refine pu 27 4 268435455 ?_
  refine done_ (by kernel_rfl) ?_
  clear hHeld
  go_wp2
  go_ret
  exact ⟨tells_no (fun h => by have := HRR.out.2 (HP.out.1 h).1; simp at this), Hu1.out⟩
 | true =>
  refine pu 13 273 16383 ?_
  refine pu 14 274 32767 ?_
  refine pu 15 275 65535 ?_
  refine pu 16 276 131071 ?_
  refine pu 17 277 262143 ?_
  refine pu 18 278 524287 ?_
  refine ta 19 279 1048575 ?_
  refine pu 20 280 2097151 ?_
  refine pu 21 281 4194303 ?_
  refine pu 22 282 8388607 ?_
  refine pu 23 283 16777215 ?_
  refine ta 24 284 33554431 ?_
  refine one_ (i := 25) (N := some 285) (ba 28 67108863) rfl rfl (by kernel_rfl) (by decide) (fun K hK => ?_)
  refine goes_ Tryz.func109 (by kernel_rfl) rfl #[.slice B ids.length e, .slice B' ids'.length e'] (by rfl) rfl rfl (by (try simp only [List.map_toArray, List.map_cons, List.map_nil]); first | done | rfl) ?_
  refine (codes109 ids ids' B B' e e' u1 ok ok' (HY.out.1.below Hu1.out) (HY.out.2.1.below Hu1.out) HY.out.2.2.1 HY.out.2.2.2).mono ?_
  rintro e u2 ⟨⟨s, rfl, hs⟩, hb⟩
  have Hu2 := Aside0.mk (below_step Hu1.out hb)
  have Su2 := Aside0.mk (show u2.cell? ⟨g, 0, none⟩ = some (.slice A ds.length c) ∧ u2.cell? ⟨g, 1, none⟩ = some (.slice B ids.length e) ∧ u2.cell? ⟨g', 0, none⟩ = some (.slice A' ds'.length c') ∧ u2.cell? ⟨g', 1, none⟩ = some (.slice B' ids'.length e') from ⟨pw_cell_below hb Su1.out.1, pw_cell_below hb Su1.out.2.1, pw_cell_below hb Su1.out.2.2.1, pw_cell_below hb Su1.out.2.2.2⟩)
  have HSS := Aside0.mk hs
  clear hs
  clear hb
  refine ⟨_, rfl, ?_⟩
  refine hK.out _ _ Su2.out (fun hHeld => ?_)
  clear hK K
  refine no 285 ?_
  refine pu 26 286 134217727 ?_
  refine pu 27 4 268435455 ?_
  refine done_ (by kernel_rfl) ?_
  clear hHeld
  go_wp2
  go_ret
  exact ⟨⟨s, rfl, by rw [HP.out]; exact ⟨fun h => ⟨HRR.out.1 (by first | rfl | trivial), HSS.out.1 h⟩, fun h => HSS.out.2 h.2⟩⟩, Hu2.out⟩
theorem dn_177 (n : Nat) (hD : DpC n) (hF : FdC n) (T T' : S28) (d d' : DT) (v v' : Value) (w : World) (ok ok' : Nat → Prop) (hT : TD (n + 1) T d) (hT' : TD (n + 1) T' d') (hI : DTIn w ok d v) (hI' : DTIn w ok' d' v') (hdis : ∀ k, ok k → ok' k → False) (ht : tyN d = 177) (ht' : tyN d' = 177) :
 Calls Tryz.prog 96 #[v, v'] w fun e w' => Tells e (d = d') ∧ Below w.heap.size w w' := by
 obtain ⟨P, hP⟩ : ∃ P : Prop, P = (d = d') := ⟨_, rfl⟩
 rw [← hP]
 obtain ⟨R, V, dr, dv, rfl, hs1, hs2⟩ := TDs.ree_of (show TDs (TD n) T d from hT) ht rfl
 obtain ⟨R', V', dr', dv', rfl, hs1', hs2'⟩ := TDs.ree_of (show TDs (TD n) T' d' from hT') ht' rfl
 simp only [DTIn, ptrAt] at hI hI'
 obtain ⟨g, x, y, rfl, hk, hg, hx1, hx2⟩ := hI
 obtain ⟨g', x', y', rfl, hk', hg', hx1', hx2'⟩ := hI'
 obtain ⟨q1, a1, rfl⟩ := hx1.form
 obtain ⟨p1, hp1⟩ : ∃ p, p = Value.pointer (some a1) := ⟨_, rfl⟩
 rw [← hp1] at hx1 hg
 clear hp1
 obtain ⟨q2, a2, rfl⟩ := hx2.form
 obtain ⟨p2, hp2⟩ : ∃ p, p = Value.pointer (some a2) := ⟨_, rfl⟩
 rw [← hp2] at hx2 hg
 clear hp2
 obtain ⟨q1', a1', rfl⟩ := hx1'.form
 obtain ⟨p1', hp1'⟩ : ∃ p, p = Value.pointer (some a1') := ⟨_, rfl⟩
 rw [← hp1'] at hx1' hg'
 clear hp1'
 obtain ⟨q2', a2', rfl⟩ := hx2'.form
 obtain ⟨p2', hp2'⟩ : ∃ p, p = Value.pointer (some a2') := ⟨_, rfl⟩
 rw [← hp2'] at hx2' hg'
 clear hp2'
 have HP := Aside0.mk (show P ↔ (dr = dr' ∧ dv = dv') from by rw [hP]; simp [and_assoc, and_comm, and_left_comm])
 have HC := Aside0.mk (And.intro hD (And.intro hF hdis))
 have HX := Aside0.mk (And.intro hx1 (And.intro hx1' (And.intro hs1 hs1')))
 have HY := Aside0.mk (And.intro hx2 (And.intro hx2' (And.intro hs2 hs2')))
 obtain ⟨y0, y1, y2⟩ := cb3 hg
 obtain ⟨z0, z1, z2⟩ := cb3 hg'
 clear hP hD hF hdis hx1 hx1' hx2 hx2' hs1 hs1' hs2 hs2' hk hk' hg hg' hT hT' ht ht'
 have hn154 := (asn_154 177 (.pointer (some ⟨g, 0, none⟩)) (by decide)).o
 have hn233 := (asn_233 177 (.pointer (some ⟨g, 0, none⟩)) (by decide)).o
 have hn180 := (asn_180 177 (.pointer (some ⟨g, 0, none⟩)) (by decide)).o
 have hn236 := (asn_236 177 (.pointer (some ⟨g, 0, none⟩)) (by decide)).o
 have hn158 := (asn_158 177 (.pointer (some ⟨g, 0, none⟩)) (by decide)).o
 have hn165 := (asn_165 177 (.pointer (some ⟨g, 0, none⟩)) (by decide)).o
 have hn161 := (asn_161 177 (.pointer (some ⟨g, 0, none⟩)) (by decide)).o
 have hn224 := (asn_224 177 (.pointer (some ⟨g, 0, none⟩)) (by decide)).o
 have hn226 := (asn_226 177 (.pointer (some ⟨g, 0, none⟩)) (by decide)).o
 have hy : ∀ W, (Instr.typeAssert (.iface 177 (.pointer (some ⟨g, 0, none⟩))) 56 177 true).run Tryz.prog W = .ok (.tuple #[.pointer (some ⟨g, 0, none⟩), .bool true]) W := asy_177 _
 have hy' : ∀ W, (Instr.typeAssert (.iface 177 (.pointer (some ⟨g', 0, none⟩))) 56 177 true).run Tryz.prog W = .ok (.tuple #[.pointer (some ⟨g', 0, none⟩), .bool true]) W := asy_177 _
 go_enter Tryz.func96, Tryz.ntmps96
 go_upto_region 41 with fail
 refine start_ (n := 35) (S := fun w' => w'.cell? ⟨g, 0, none⟩ = some (.iface q1 p1) ∧ w'.cell? ⟨g, 1, none⟩ = some (.iface q2 p2) ∧ w'.cell? ⟨g, 2, none⟩ = some (.bool true) ∧ w'.cell? ⟨g', 0, none⟩ = some (.iface q1' p1') ∧ w'.cell? ⟨g', 1, none⟩ = some (.iface q2' p2') ∧ w'.cell? ⟨g', 2, none⟩ = some (.bool true)) (ds := []) (ba 35 0) (by kernel_rfl) rfl rfl ⟨y0, y1, y2, z0, z1, z2⟩ (fun hHeld => ?_)
 generalize hw_ : w.drew = u0 at hHeld ⊢
 have Hu0 := Aside0.mk (show Below w.heap.size w u0 from by rw [← hw_]; exact b3_ (Below.refl _ _))
 clear hw_
 clear y0 y1 y2 z0 z1 z2
 have Su0 := Aside0.mk hHeld
 refine pu 0 295 1 ?_
 refine pu 1 296 3 ?_
 refine pu 2 297 7 ?_
 refine pu 3 298 15 ?_
 refine pu 4 299 31 ?_
 refine ta 5 300 63 ?_
 refine pu 6 301 127 ?_
 refine pu 7 302 255 ?_
 refine pu 8 303 511 ?_
 refine ta 9 304 1023 ?_
 refine pu 10 305 2047 ?_
 refine pu 11 306 4095 ?_
 refine pu 12 307 8191 ?_
 refine pu 13 308 16383 ?_
 refine pu 14 309 32767 ?_
 refine pu 15 310 65535 ?_
 refine ta 16 311 131071 ?_
 refine pu 17 312 262143 ?_
 refine pu 18 313 524287 ?_
 refine pu 19 314 1048575 ?_
 refine ta 20 315 2097151 ?_
 refine one_ (i := 21) (N := some 316) (ba 35 4194303) rfl rfl (by kernel_rfl) (by decide) (fun K hK => ?_)
 refine goes_ Tryz.func73 (by kernel_rfl) rfl #[.iface q1 p1, .iface q1' p1'] (by rfl) rfl rfl (by (try simp only [List.map_toArray, List.map_cons, List.map_nil]); first | done | rfl) ?_
 refine (HC.out.1 _ _ _ _ _ _ u0 ok ok' HX.out.2.2.1 HX.out.2.2.2 (HX.out.1.below Hu0.out) (HX.out.2.1.below Hu0.out) HC.out.2.2).mono ?_
 rintro e u1 ⟨⟨r, rfl, hr⟩, hb⟩
 have Hu1 := Aside0.mk (below_step Hu0.out hb)
 have Su1 := Aside0.mk (show u1.cell? ⟨g, 0, none⟩ = some (.iface q1 p1) ∧ u1.cell? ⟨g, 1, none⟩ = some (.iface q2 p2) ∧ u1.cell? ⟨g, 2, none⟩ = some (.bool true) ∧ u1.cell? ⟨g', 0, none⟩ = some (.iface q1' p1') ∧ u1.cell? ⟨g', 1, none⟩ = some (.iface q2' p2') ∧ u1.cell? ⟨g', 2, none⟩ = some (.bool true) from ⟨pw_cell_below hb Su0.out.1, pw_cell_below hb Su0.out.2.1, pw_cell_below hb Su0.out.2.2.1, pw_cell_below hb Su0.out.2.2.2.1, pw_cell_below hb Su0.out.2.2.2.2.1, pw_cell_below hb Su0.out.2.2.2.2.2⟩)
 have HRR := Aside0.mk hr
 clear hr
 clear hb
 refine ⟨_, rfl, ?_⟩
 refine hK.out _ _ Su1.out (fun hHeld => ?_)
 clear hK K
 refine no 316 ?_
 cases r with
 | false =>
  refine pu 22 317 8388607 ?_
  refine pu 23 318 16777215 ?_
  refine ou 24 319 33554431 ?_
  refine ou 25 320 67108863 ?_
  refine ou 26 321 134217727 ?_
  refine ou 27 322 268435455 ?_
  refine ou 28 323 536870911 ?_
  refine ou 29 324 1073741823 ?_
  refine ou 30 325 2147483647 ?_
  refine ou 31 326 4294967295 ?_
  refine ou 32 327 8589934591 ?_
  refine pu 33 328 17179869183 ?_
  refine pu 34 4 34359738367 ?_
  refine done_ (by kernel_rfl) ?_
  clear hHeld
  go_wp2
  go_ret
  exact ⟨tells_no (fun h => by have := HRR.out.2 (HP.out.1 h).1; simp at this), Hu1.out⟩
 | true =>
  refine pu 22 317 8388607 ?_
  refine pu 23 318 16777215 ?_
  refine pu 24 319 33554431 ?_
  refine pu 25 320 67108863 ?_
  refine pu 26 321 134217727 ?_
  refine ta 27 322 268435455 ?_
  refine pu 28 323 536870911 ?_
  refine pu 29 324 1073741823 ?_
  refine pu 30 325 2147483647 ?_
  refine ta 31 326 4294967295 ?_
  refine one_ (i := 32) (N := some 327) (ba 35 8589934591) rfl rfl (by kernel_rfl) (by decide) (fun K hK => ?_)
  refine goes_ Tryz.func73 (by kernel_rfl) rfl #[.iface q2 p2, .iface q2' p2'] (by rfl) rfl rfl (by (try simp only [List.map_toArray, List.map_cons, List.map_nil]); first | done | rfl) ?_
  refine (HC.out.1 _ _ _ _ _ _ u1 ok ok' HY.out.2.2.1 HY.out.2.2.2 (HY.out.1.below Hu1.out) (HY.out.2.1.below Hu1.out) HC.out.2.2).mono ?_
  rintro e u2 ⟨⟨s, rfl, hs⟩, hb⟩
  have Hu2 := Aside0.mk (below_step Hu1.out hb)
  have Su2 := Aside0.mk (show u2.cell? ⟨g, 0, none⟩ = some (.iface q1 p1) ∧ u2.cell? ⟨g, 1, none⟩ = some (.iface q2 p2) ∧ u2.cell? ⟨g, 2, none⟩ = some (.bool true) ∧ u2.cell? ⟨g', 0, none⟩ = some (.iface q1' p1') ∧ u2.cell? ⟨g', 1, none⟩ = some (.iface q2' p2') ∧ u2.cell? ⟨g', 2, none⟩ = some (.bool true) from ⟨pw_cell_below hb Su1.out.1, pw_cell_below hb Su1.out.2.1, pw_cell_below hb Su1.out.2.2.1, pw_cell_below hb Su1.out.2.2.2.1, pw_cell_below hb Su1.out.2.2.2.2.1, pw_cell_below hb Su1.out.2.2.2.2.2⟩)
  have HSS := Aside0.mk hs
  clear hs
  clear hb
  refine ⟨_, rfl, ?_⟩
  refine hK.out _ _ Su2.out (fun hHeld => ?_)
  clear hK K
  refine no 327 ?_
  refine pu 33 328 17179869183 ?_
  refine pu 34 4 34359738367 ?_
  refine done_ (by kernel_rfl) ?_
  clear hHeld
  go_wp2
  go_ret
  exact ⟨⟨s, rfl, by rw [HP.out]; exact ⟨fun h => ⟨HRR.out.1 (by first | rfl | trivial), HSS.out.1 h⟩, fun h => HSS.out.2 h.2⟩⟩, Hu2.out⟩
theorem dn_zero (n : Nat) (hD : DpC n) (hF : FdC n) (T T' : S28) (d d' : DT) (v v' : Value) (w : World) (ok ok' : Nat → Prop) (hT : TD (n + 1) T d) (hT' : TD (n + 1) T' d') (hI : DTIn w ok d v) (hI' : DTIn w ok' d' v') (hdis : ∀ k, ok k → ok' k → False) (ht : tyN d ∈ zeroT) (ht' : tyN d = tyN d') :
 Calls Tryz.prog 96 #[v, v'] w fun e w' => Tells e (d = d') ∧ Below w.heap.size w w' := by
 have e1 := TDs.zero_of (show TDs (TD n) T d from hT) rfl ht
 have e2 := TDs.zero_of (show TDs (TD n) T' d' from hT') rfl (by rw [← ht']; exact ht)
 obtain ⟨P, hP⟩ : ∃ P : Prop, P = (d = d') := ⟨_, rfl⟩
 rw [← hP]
 have HP := Aside0.mk (show P by rw [hP, e1, e2, ht'])
 obtain ⟨a, rfl, _⟩ := id_any hI
 obtain ⟨a', rfl, _⟩ := id_any hI'
 obtain ⟨u, hu⟩ : ∃ u, u = tyN d := ⟨_, rfl⟩
 rw [← hu] at ht ⊢
 obtain ⟨u', hu'⟩ : ∃ u, u = tyN d' := ⟨_, rfl⟩
 rw [← hu'] at ⊢
 have hne : ∀ k, zeroT.contains k = false → u ≠ k := fun k hk e => by rw [e] at ht; have := List.contains_iff_mem.mpr ht; rw [hk] at this; cases this
 have hn154 : ∀ W, (Instr.typeAssert (.iface u (.pointer (some a))) 56 154 true).run Tryz.prog W = .ok (.tuple #[.pointer none, .bool false]) W := asn_154 _ _ (hne 154 (by decide))
 have hn233 : ∀ W, (Instr.typeAssert (.iface u (.pointer (some a))) 56 233 true).run Tryz.prog W = .ok (.tuple #[.pointer none, .bool false]) W := asn_233 _ _ (hne 233 (by decide))
 have hn180 : ∀ W, (Instr.typeAssert (.iface u (.pointer (some a))) 56 180 true).run Tryz.prog W = .ok (.tuple #[.pointer none, .bool false]) W := asn_180 _ _ (hne 180 (by decide))
 have hn236 : ∀ W, (Instr.typeAssert (.iface u (.pointer (some a))) 56 236 true).run Tryz.prog W = .ok (.tuple #[.pointer none, .bool false]) W := asn_236 _ _ (hne 236 (by decide))
 have hn158 : ∀ W, (Instr.typeAssert (.iface u (.pointer (some a))) 56 158 true).run Tryz.prog W = .ok (.tuple #[.pointer none, .bool false]) W := asn_158 _ _ (hne 158 (by decide))
 have hn165 : ∀ W, (Instr.typeAssert (.iface u (.pointer (some a))) 56 165 true).run Tryz.prog W = .ok (.tuple #[.pointer none, .bool false]) W := asn_165 _ _ (hne 165 (by decide))
 have hn161 : ∀ W, (Instr.typeAssert (.iface u (.pointer (some a))) 56 161 true).run Tryz.prog W = .ok (.tuple #[.pointer none, .bool false]) W := asn_161 _ _ (hne 161 (by decide))
 have hn224 : ∀ W, (Instr.typeAssert (.iface u (.pointer (some a))) 56 224 true).run Tryz.prog W = .ok (.tuple #[.pointer none, .bool false]) W := asn_224 _ _ (hne 224 (by decide))
 have hn226 : ∀ W, (Instr.typeAssert (.iface u (.pointer (some a))) 56 226 true).run Tryz.prog W = .ok (.tuple #[.pointer none, .bool false]) W := asn_226 _ _ (hne 226 (by decide))
 have hn177 : ∀ W, (Instr.typeAssert (.iface u (.pointer (some a))) 56 177 true).run Tryz.prog W = .ok (.tuple #[.pointer none, .bool false]) W := asn_177 _ _ (hne 177 (by decide))
 clear hne hP e1 e2 hu hu' hT hT' hI hI' hdis hD hF ht ht'
 go_enter Tryz.func96, Tryz.ntmps96
 go_wp2
 go_ret
 exact ⟨tells_yes HP.out, Below.refl _ _⟩
def nestL : List Nat := zeroT ++ [154, 233, 180, 236, 158, 165, 161, 224, 226, 177]
theorem dn96 (n : Nat) (hD : DpC n) (hF : FdC n) (T T' : S28) (d d' : DT) (v v' : Value) (w : World) (ok ok' : Nat → Prop) (hT : TD (n + 1) T d) (hT' : TD (n + 1) T' d') (hI : DTIn w ok d v) (hI' : DTIn w ok' d' v') (hdis : ∀ k, ok k → ok' k → False) (ht : tyN d ∈ nestL) (ht' : tyN d = tyN d') :
 Calls Tryz.prog 96 #[v, v'] w fun e w' => Tells e (d = d') ∧ Below w.heap.size w w' := by
 unfold nestL at ht
 rcases List.mem_append.mp ht with h | h
 ·exact dn_zero n hD hF T T' d d' v v' w ok ok' hT hT' hI hI' hdis h ht'
 ·simp only [List.mem_cons, List.not_mem_nil, or_false] at h
  rcases h with h | h | h | h | h | h | h | h | h | h
  ·exact dn_154 n hD hF T T' d d' v v' w ok ok' hT hT' hI hI' hdis h (ht'.symm.trans h)
  ·exact dn_233 n hD hF T T' d d' v v' w ok ok' hT hT' hI hI' hdis h (ht'.symm.trans h)
  ·exact dn_180 n hD hF T T' d d' v v' w ok ok' hT hT' hI hI' hdis h (ht'.symm.trans h)
  ·exact dn_236 n hD hF T T' d d' v v' w ok ok' hT hT' hI hI' hdis h (ht'.symm.trans h)
  ·exact dn_158 n hD hF T T' d d' v v' w ok ok' hT hT' hI hI' hdis h (ht'.symm.trans h)
  ·exact dn_165 n hD hF T T' d d' v v' w ok ok' hT hT' hI hI' hdis h (ht'.symm.trans h)
  ·exact dn_161 n hD hF T T' d d' v v' w ok ok' hT hT' hI hI' hdis h (ht'.symm.trans h)
  ·exact dn_224 n hD hF T T' d d' v v' w ok ok' hT hT' hI hI' hdis h (ht'.symm.trans h)
  ·exact dn_226 n hD hF T T' d d' v v' w ok ok' hT hT' hI hI' hdis h (ht'.symm.trans h)
  ·exact dn_177 n hD hF T T' d d' v v' w ok ok' hT hT' hI hI' hdis h (ht'.symm.trans h)
end Go.Proofs.YteebgnhhjlgnjaaGreatDoor.V
