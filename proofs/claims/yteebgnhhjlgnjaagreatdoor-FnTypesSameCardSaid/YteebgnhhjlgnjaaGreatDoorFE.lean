/- Field.Equal. -/
import Derived.Test.YteebgnhhjlgnjaaGreatDoorD0
import Derived.Test.YteebgnhhjlgnjaaGreatDoorE2
namespace Go.Proofs.YteebgnhhjlgnjaaGreatDoor.V
open Go.RowKit Go.Proofs.YteebgnhhjlgnjaaGreatDoorW.PrintWords Go.Proofs.YteebgnhhjlgnjaaGreatDoorW.PrintLast Go.Proofs.YteebgnhhjlgnjaaGreatDoorW.PrintMore
set_option maxHeartbeats 40000000
set_option maxRecDepth 100000
set_option linter.unusedVariables false
set_option linter.unusedSimpArgs false
theorem check36 (w : World) : Calls Tryz.prog 36 #[] w fun e w' => e = .returned (.func (.func 74) #[] #[]) ∧ Below w.heap.size w w' := by
 go_enter Tryz.func36, Tryz.ntmps36
 go_wp2
 go_ret
 exact ⟨rfl, Below.refl _ _⟩
def FeC (n : Nat) : Prop := ∀ (nm nm' : ByteArray) (b b' : Bool) (T T' : S28) (d d' : DT) (x x' : Value) (w : World) (ok ok' : Nat → Prop), TD n T d → TD n T' d' → DTIn w ok d x → DTIn w ok' d' x' → (∀ k, ok k → ok' k → False) →
 Calls Tryz.prog 30 #[.agg #[.string nm, x, .bool b, .slice none 0 0, .slice none 0 0], .agg #[.string nm', x', .bool b', .slice none 0 0, .slice none 0 0]] w fun e w' => Tells e (nm = nm' ∧ b = b' ∧ d = d') ∧ Below w.heap.size w w'
theorem fe30 (n : Nat) (hD : TeC n) : FeC n := by
 intro nm nm' b b' T T' d1_ d2_ x x' w ok ok' hT hT' hI hI' hdis
 obtain ⟨q, a, rfl⟩ := hI.form
 obtain ⟨q', a', rfl⟩ := hI'.form
 obtain ⟨p, hp⟩ : ∃ p, p = Value.pointer (some a) := ⟨_, rfl⟩
 obtain ⟨p', hp'⟩ : ∃ p, p = Value.pointer (some a') := ⟨_, rfl⟩
 rw [← hp] at hI ⊢
 rw [← hp'] at hI' ⊢
 clear hp hp'
 have HC := Aside0.mk (And.intro hT (And.intro hT' (And.intro hI (And.intro hI' (And.intro hdis hD)))))
 clear hT hT' hI hI' hdis hD
 obtain ⟨P, hP⟩ : ∃ P : Prop, P = (nm = nm' ∧ b = b' ∧ d1_ = d2_) := ⟨_, rfl⟩
 rw [← hP]
 have HP := Aside0.mk hP
 clear hP
 go_enter Tryz.func30, Tryz.ntmps30
 go_upto_region 1 with fail
 refine wp_at ?_
 intro w1 hw1
 have b1 : Below w.heap.size w w1 := by rw [hw1]; repeat (first | exact Below.refl _ _ | assumption | apply b1_ | apply b2_ | apply b3_)
 have k0 : w1.heap[w.heap.size]? = some (.cells #[.string nm, .iface q p, .bool b, .slice none 0 0, .slice none 0 0] 61 (0, 0)) := by rw [hw1]; exact blk_alloc_ (blk_new _ _)
 have k1 : w1.heap[w.heap.size + 1]? = some (.cells #[.string nm', .iface q' p', .bool b', .slice none 0 0, .slice none 0 0] 61 (0, 0)) := by rw [hw1]; exact blk_new_at (by rw [alloc_size_])
 clear hw1
 have c0 : w1.cell? ⟨w.heap.size, 0, none⟩ = some (.string nm) := (blk_cell k0 0).trans rfl
 have d0 : w1.cell? ⟨w.heap.size + 1, 0, none⟩ = some (.string nm') := (blk_cell k1 0).trans rfl
 have c1 : w1.cell? ⟨w.heap.size, 1, none⟩ = some (.iface q p) := (blk_cell k0 1).trans rfl
 have d1 : w1.cell? ⟨w.heap.size + 1, 1, none⟩ = some (.iface q' p') := (blk_cell k1 1).trans rfl
 have c2 : w1.cell? ⟨w.heap.size, 2, none⟩ = some (.bool b) := (blk_cell k0 2).trans rfl
 have d2 : w1.cell? ⟨w.heap.size + 1, 2, none⟩ = some (.bool b') := (blk_cell k1 2).trans rfl
 have c3 : w1.cell? ⟨w.heap.size, 3, none⟩ = some (.slice none 0 0) := (blk_cell k0 3).trans rfl
 have d3 : w1.cell? ⟨w.heap.size + 1, 3, none⟩ = some (.slice none 0 0) := (blk_cell k1 3).trans rfl
 have c4 : w1.cell? ⟨w.heap.size, 4, none⟩ = some (.slice none 0 0) := (blk_cell k0 4).trans rfl
 have d4 : w1.cell? ⟨w.heap.size + 1, 4, none⟩ = some (.slice none 0 0) := (blk_cell k1 4).trans rfl
 have HB := Aside0.mk (And.intro b1 (And.intro k0 k1))
 clear b1 k0 k1
 by_cases hn : nm = nm'
 rotate_left
 ·have qb : (nm.toList == nm'.toList) = false := by rw [beq_eq_false_iff_ne]; exact fun e => hn (toList_inj e)
  have HN := Aside0.mk hn
  clear hn
  go_wp2
  go_ret
  exact ⟨tells_no (fun h => by rw [HP.out] at h; exact HN.out h.1), HB.out.1⟩
 subst hn
 by_cases hb : b = b'
 rotate_left
 ·have HN := Aside0.mk hb
  have qb : (b == b') = false := by rw [beq_eq_false_iff_ne]; exact hb
  have qb2 : (b != b') = true := by simpa using hb
  clear hb
  go_wp2
  go_ret
  exact ⟨tells_no (fun h => by rw [HP.out] at h; exact HN.out h.2.1), HB.out.1⟩
 subst hb
 go_upto_region 5 with fail
 refine start_ (n := 9) (S := fun w' => w'.cell? ⟨w.heap.size, 0, none⟩ = some (.string nm) ∧ w'.cell? ⟨w.heap.size, 1, none⟩ = some (.iface q p) ∧ w'.cell? ⟨w.heap.size, 2, none⟩ = some (.bool b) ∧ w'.cell? ⟨w.heap.size, 3, none⟩ = some (.slice none 0 0) ∧ w'.cell? ⟨w.heap.size, 4, none⟩ = some (.slice none 0 0) ∧ w'.cell? ⟨w.heap.size + 1, 0, none⟩ = some (.string nm) ∧ w'.cell? ⟨w.heap.size + 1, 1, none⟩ = some (.iface q' p') ∧ w'.cell? ⟨w.heap.size + 1, 2, none⟩ = some (.bool b) ∧ w'.cell? ⟨w.heap.size + 1, 3, none⟩ = some (.slice none 0 0) ∧ w'.cell? ⟨w.heap.size + 1, 4, none⟩ = some (.slice none 0 0)) (ds := []) (ba 9 0) (by kernel_rfl) rfl rfl ⟨c0, c1, c2, c3, c4, d0, d1, d2, d3, d4⟩ (fun hHeld => ?_)
 generalize hw_ : w1.drew = u0 at hHeld ⊢
 have Hu0 := Aside0.mk (show Below w1.heap.size w1 u0 from by rw [← hw_]; exact b3_ (Below.refl _ _))
 clear hw_
 clear c0 c1 c2 c3 c4 d0 d1 d2 d3 d4
 have Su0 := Aside0.mk hHeld
 refine pu 0 18 1 ?_
 refine ta 1 19 3 ?_
 refine pu 2 20 7 ?_
 refine ta 3 21 15 ?_
 refine one_ (i := 4) (N := some 22) (ba 9 31) rfl rfl (by kernel_rfl) (by decide) (fun K hK => ?_)
 refine goes_ Tryz.func36 (by kernel_rfl) rfl #[] (by rfl) rfl rfl (by (try simp only [List.map_toArray, List.map_cons, List.map_nil]); first | done | rfl) ?_
 refine (check36 u0).mono ?_
 rintro e u1 ⟨rfl, hb⟩
 have Hu1 := Aside0.mk (below_step Hu0.out hb)
 have Su1 := Aside0.mk (show u1.cell? ⟨w.heap.size, 0, none⟩ = some (.string nm) ∧ u1.cell? ⟨w.heap.size, 1, none⟩ = some (.iface q p) ∧ u1.cell? ⟨w.heap.size, 2, none⟩ = some (.bool b) ∧ u1.cell? ⟨w.heap.size, 3, none⟩ = some (.slice none 0 0) ∧ u1.cell? ⟨w.heap.size, 4, none⟩ = some (.slice none 0 0) ∧ u1.cell? ⟨w.heap.size + 1, 0, none⟩ = some (.string nm) ∧ u1.cell? ⟨w.heap.size + 1, 1, none⟩ = some (.iface q' p') ∧ u1.cell? ⟨w.heap.size + 1, 2, none⟩ = some (.bool b) ∧ u1.cell? ⟨w.heap.size + 1, 3, none⟩ = some (.slice none 0 0) ∧ u1.cell? ⟨w.heap.size + 1, 4, none⟩ = some (.slice none 0 0) from ⟨pw_cell_below hb Su0.out.1, pw_cell_below hb Su0.out.2.1, pw_cell_below hb Su0.out.2.2.1, pw_cell_below hb Su0.out.2.2.2.1, pw_cell_below hb Su0.out.2.2.2.2.1, pw_cell_below hb Su0.out.2.2.2.2.2.1, pw_cell_below hb Su0.out.2.2.2.2.2.2.1, pw_cell_below hb Su0.out.2.2.2.2.2.2.2.1, pw_cell_below hb Su0.out.2.2.2.2.2.2.2.2.1, pw_cell_below hb Su0.out.2.2.2.2.2.2.2.2.2⟩)
 clear hb
 refine ⟨_, rfl, ?_⟩
 refine hK.out _ _ Su1.out (fun hHeld => ?_)
 clear hK K
 refine no 22 ?_
 refine one_ (i := 5) (N := some 23) (ba 9 63) rfl rfl (by kernel_rfl) (by decide) (fun K hK => ?_)
 refine value_ (v := .slice (some ⟨u1.heap.size, 0, none⟩) 1 1) (w1 := u1.alloc (.cells #[.func (.func 74) #[] #[]] 70)) (by rfl) rfl ?_ ?_
 ·first | (go_simp; done) | (go_simp; rfl)
 have hb := (Below.refl u1.heap.size u1).alloc (Nat.le_refl _) (.cells #[.func (.func 74) #[] #[]] 70)
 have Hu2 := Aside0.mk (below_step Hu1.out hb)
 have Su2 := Aside0.mk (show (u1.alloc (.cells #[.func (.func 74) #[] #[]] 70)).cell? ⟨w.heap.size, 0, none⟩ = some (.string nm) ∧ (u1.alloc (.cells #[.func (.func 74) #[] #[]] 70)).cell? ⟨w.heap.size, 1, none⟩ = some (.iface q p) ∧ (u1.alloc (.cells #[.func (.func 74) #[] #[]] 70)).cell? ⟨w.heap.size, 2, none⟩ = some (.bool b) ∧ (u1.alloc (.cells #[.func (.func 74) #[] #[]] 70)).cell? ⟨w.heap.size, 3, none⟩ = some (.slice none 0 0) ∧ (u1.alloc (.cells #[.func (.func 74) #[] #[]] 70)).cell? ⟨w.heap.size, 4, none⟩ = some (.slice none 0 0) ∧ (u1.alloc (.cells #[.func (.func 74) #[] #[]] 70)).cell? ⟨w.heap.size + 1, 0, none⟩ = some (.string nm) ∧ (u1.alloc (.cells #[.func (.func 74) #[] #[]] 70)).cell? ⟨w.heap.size + 1, 1, none⟩ = some (.iface q' p') ∧ (u1.alloc (.cells #[.func (.func 74) #[] #[]] 70)).cell? ⟨w.heap.size + 1, 2, none⟩ = some (.bool b) ∧ (u1.alloc (.cells #[.func (.func 74) #[] #[]] 70)).cell? ⟨w.heap.size + 1, 3, none⟩ = some (.slice none 0 0) ∧ (u1.alloc (.cells #[.func (.func 74) #[] #[]] 70)).cell? ⟨w.heap.size + 1, 4, none⟩ = some (.slice none 0 0) from ⟨pw_cell_below hb Su1.out.1, pw_cell_below hb Su1.out.2.1, pw_cell_below hb Su1.out.2.2.1, pw_cell_below hb Su1.out.2.2.2.1, pw_cell_below hb Su1.out.2.2.2.2.1, pw_cell_below hb Su1.out.2.2.2.2.2.1, pw_cell_below hb Su1.out.2.2.2.2.2.2.1, pw_cell_below hb Su1.out.2.2.2.2.2.2.2.1, pw_cell_below hb Su1.out.2.2.2.2.2.2.2.2.1, pw_cell_below hb Su1.out.2.2.2.2.2.2.2.2.2⟩)
 clear hb
 refine hK.out _ _ Su2.out (fun hHeld => ?_)
 clear hK K
 refine no 23 ?_
 refine one_ (i := 6) (N := some 24) (ba 9 127) rfl rfl (by kernel_rfl) (by decide) (fun K hK => ?_)
 refine goes_ Tryz.func35 (by kernel_rfl) rfl #[.iface q p, .iface q' p', .slice (some ⟨u1.heap.size, 0, none⟩) 1 1] (by rfl) rfl rfl (by (try simp only [List.map_toArray, List.map_cons, List.map_nil]); first | done | rfl) ?_
 refine (HC.out.2.2.2.2.2 T T' d1_ d2_ _ _ (u1.alloc (.cells #[.func (.func 74) #[] #[]] 70)) ok ok' (some ⟨u1.heap.size, 0, none⟩) 1 HC.out.1 HC.out.2.1 (HC.out.2.2.1.below (below_step HB.out.1 Hu2.out)) (HC.out.2.2.2.1.below (below_step HB.out.1 Hu2.out)) HC.out.2.2.2.2.1 (.inr ⟨rfl, _, rfl, blk_new _ _⟩)).mono ?_
 rintro e u3 ⟨⟨r, rfl, hr⟩, hb⟩
 have Hu3 := Aside0.mk (below_step Hu2.out hb)
 have Su3 := Aside0.mk (show u3.cell? ⟨w.heap.size, 0, none⟩ = some (.string nm) ∧ u3.cell? ⟨w.heap.size, 1, none⟩ = some (.iface q p) ∧ u3.cell? ⟨w.heap.size, 2, none⟩ = some (.bool b) ∧ u3.cell? ⟨w.heap.size, 3, none⟩ = some (.slice none 0 0) ∧ u3.cell? ⟨w.heap.size, 4, none⟩ = some (.slice none 0 0) ∧ u3.cell? ⟨w.heap.size + 1, 0, none⟩ = some (.string nm) ∧ u3.cell? ⟨w.heap.size + 1, 1, none⟩ = some (.iface q' p') ∧ u3.cell? ⟨w.heap.size + 1, 2, none⟩ = some (.bool b) ∧ u3.cell? ⟨w.heap.size + 1, 3, none⟩ = some (.slice none 0 0) ∧ u3.cell? ⟨w.heap.size + 1, 4, none⟩ = some (.slice none 0 0) from ⟨pw_cell_below hb Su2.out.1, pw_cell_below hb Su2.out.2.1, pw_cell_below hb Su2.out.2.2.1, pw_cell_below hb Su2.out.2.2.2.1, pw_cell_below hb Su2.out.2.2.2.2.1, pw_cell_below hb Su2.out.2.2.2.2.2.1, pw_cell_below hb Su2.out.2.2.2.2.2.2.1, pw_cell_below hb Su2.out.2.2.2.2.2.2.2.1, pw_cell_below hb Su2.out.2.2.2.2.2.2.2.2.1, pw_cell_below hb Su2.out.2.2.2.2.2.2.2.2.2⟩)
 have HRR := Aside0.mk hr
 clear hr
 clear hb
 refine ⟨_, rfl, ?_⟩
 refine hK.out _ _ Su3.out (fun hHeld => ?_)
 clear hK K
 refine no 24 ?_
 refine pu 7 25 255 ?_
 refine pu 8 17 511 ?_
 refine done_ (by kernel_rfl) ?_
 clear hHeld
 have HB2 := Aside0.mk (And.intro (below_step HB.out.1 Hu3.out) (And.intro (blk_below HB.out.2.1 Hu3.out) (blk_below HB.out.2.2 Hu3.out)))
 have c0 : u3.cell? ⟨w.heap.size, 0, none⟩ = some (.string nm) := (blk_cell HB2.out.2.1 0).trans rfl
 have d0 : u3.cell? ⟨w.heap.size + 1, 0, none⟩ = some (.string nm) := (blk_cell HB2.out.2.2 0).trans rfl
 have c1 : u3.cell? ⟨w.heap.size, 1, none⟩ = some (.iface q p) := (blk_cell HB2.out.2.1 1).trans rfl
 have d1 : u3.cell? ⟨w.heap.size + 1, 1, none⟩ = some (.iface q' p') := (blk_cell HB2.out.2.2 1).trans rfl
 have c2 : u3.cell? ⟨w.heap.size, 2, none⟩ = some (.bool b) := (blk_cell HB2.out.2.1 2).trans rfl
 have d2 : u3.cell? ⟨w.heap.size + 1, 2, none⟩ = some (.bool b) := (blk_cell HB2.out.2.2 2).trans rfl
 have c3 : u3.cell? ⟨w.heap.size, 3, none⟩ = some (.slice none 0 0) := (blk_cell HB2.out.2.1 3).trans rfl
 have d3 : u3.cell? ⟨w.heap.size + 1, 3, none⟩ = some (.slice none 0 0) := (blk_cell HB2.out.2.2 3).trans rfl
 have c4 : u3.cell? ⟨w.heap.size, 4, none⟩ = some (.slice none 0 0) := (blk_cell HB2.out.2.1 4).trans rfl
 have d4 : u3.cell? ⟨w.heap.size + 1, 4, none⟩ = some (.slice none 0 0) := (blk_cell HB2.out.2.2 4).trans rfl
 cases r with
 | false =>
  go_wp2
  go_ret
  exact ⟨tells_no (fun h => by rw [HP.out] at h; have := HRR.out.2 h.2.2; simp at this), HB2.out.1⟩
 | true =>
  go_wp2_with (go_at_call 52; fail)
  refine (meta52 _).mono ?_
  rintro e w3 ⟨rfl, hb3⟩
  have HB3 := Aside0.mk (below_step HB2.out.1 hb3)
  clear hb3
  clear c0 d0 c1 d1 c2 d2 c3 d3 c4 d4
  go_wp2
  go_ret
  exact ⟨tells_yes (by rw [HP.out]; exact ⟨by first | rfl | trivial, by first | rfl | trivial, HRR.out.1 (by first | rfl | trivial)⟩), HB3.out⟩
end Go.Proofs.YteebgnhhjlgnjaaGreatDoor.V
