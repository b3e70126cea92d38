/- spec.SameType of types that are asked. -/
import Derived.Test.YteebgnhhjlgnjaaGreatDoorAN5
import Derived.Test.YteebgnhhjlgnjaaGreatDoorE2
import Derived.Test.YteebgnhhjlgnjaaGreatDoorSL
import Derived.Test.YteebgnhhjlgnjaaGreatDoorE5
namespace Go.Proofs.YteebgnhhjlgnjaaGreatDoor.V
open Go.RowKit Go.Proofs.YteebgnhhjlgnjaaGreatDoorW.PrintWords Go.Proofs.YteebgnhhjlgnjaaGreatDoorW.PrintLast Go.Proofs.YteebgnhhjlgnjaaGreatDoorW.PrintMore
set_option maxHeartbeats 40000000
set_option maxRecDepth 100000
set_option linter.unusedVariables false
set_option linter.unusedSimpArgs false
section
variable {P : Program} {ops : Array Oper} {Q : Exit → Act → World → Prop} {a : Act} {w : World}
theorem sc (n : Nat) (S : World → Prop) {id : Nat} (h : Kept S → ∀ w' : World, S w' → Below w.heap.size w w' → wpAnyLast P .any ops Q S [] n (ba n 0) a w') (hS : S w := by (repeat' apply And.intro) <;> first | exact Below.refl _ _ | assumption)
 (hk : Kept S := by refine ⟨fun _ _ hb hs => ?_⟩; (repeat (obtain ⟨_, hs⟩ := hs)); (repeat' apply And.intro) <;> first | exact pw_cell_below hb (by assumption) | exact below_step (by assumption) hb | exact blk_below (by assumption) hb)
 (hm : P.follows .mixedOrders = true := by kernel_rfl) (hn : ops.size = n := by exact rfl) (hl : Array.replicate n false = ba n 0 := by rfl) : (Code.region id ops true).wp P Q a w :=
 sa n S h hS hk hm hn hl
end
def SmC (T T' : S28) : Prop := ∀ (w : World) (A8 A9 A8' A9' : Option Addr) (c8 c9 c8' c9' : Nat), Kd.C (Kd.int .i64) w A8 T.f8.length T.f8 → Kd.C k30 w A9 T.f9.length T.f9 → Kd.C (Kd.int .i64) w A8' T'.f8.length T'.f8 → Kd.C k30 w A9' T'.f9.length T'.f9 →
 Calls Tryz.prog 19 #[.agg #[.int .i64 T.f0, .int .i64 T.f1, .bool T.f2, .int .i64 T.f3, .int .i64 T.f4, .int .i64 T.f5, .string T.f6, .bool T.f7, .slice A8 T.f8.length c8, .slice A9 T.f9.length c9], .agg #[.int .i64 T'.f0, .int .i64 T'.f1, .bool T'.f2, .int .i64 T'.f3, .int .i64 T'.f4, .int .i64 T'.f5, .string T'.f6, .bool T'.f7, .slice A8' T'.f8.length c8', .slice A9' T'.f9.length c9']] w fun e w' => Tells e (T = T') ∧ Below w.heap.size w w'
theorem pairs28 (A A' : Option Addr) (c c' : Nat) (w : World) : Calls Tryz.prog 28 #[.slice A 0 c, .slice A' 0 c'] w fun e w' => e = .returned (.bool true) ∧ Below w.heap.size w w' := by
 go_enter Tryz.func28, Tryz.ntmps28
 go_wp2
 go_rounds 1
 go_wp2
 go_ret
 exact ⟨rfl, bl⟩
theorem sm14 (n n' : ByteArray) (b b' : Bool) (T T' : S28) (h : SmC T T') (w : World) (A8 A9 A8' A9' : Option Addr) (c8 c9 c8' c9' : Nat) (A12 A12' : Option Addr) (c12 c12' : Nat) (g8 : Kd.C (Kd.int .i64) w A8 T.f8.length T.f8) (g9 : Kd.C k30 w A9 T.f9.length T.f9) (g8' : Kd.C (Kd.int .i64) w A8' T'.f8.length T'.f8) (g9' : Kd.C k30 w A9' T'.f9.length T'.f9) :
 Calls Tryz.prog 14 #[.agg #[.string n, .bool b, .int .i64 T.f0, .int .i64 T.f1, .bool T.f2, .int .i64 T.f3, .int .i64 T.f4, .int .i64 T.f5, .string T.f6, .bool T.f7, .slice A8 T.f8.length c8, .slice A9 T.f9.length c9, .slice A12 0 c12], .agg #[.string n', .bool b', .int .i64 T'.f0, .int .i64 T'.f1, .bool T'.f2, .int .i64 T'.f3, .int .i64 T'.f4, .int .i64 T'.f5, .string T'.f6, .bool T'.f7, .slice A8' T'.f8.length c8', .slice A9' T'.f9.length c9', .slice A12' 0 c12']] w fun e w' => Tells e (n = n' ∧ b = b' ∧ T = T') ∧ Below w.heap.size w w' := by
 have HS := Aside0.mk (And.intro h (And.intro g8 (And.intro g9 (And.intro g8' g9'))))
 clear h g8 g9 g8' g9'
 obtain ⟨P, hP⟩ : ∃ P : Prop, P = (n = n' ∧ b = b' ∧ T = T') := ⟨_, rfl⟩
 rw [← hP]
 have HP := Aside0.mk hP
 clear hP
 by_cases hn : n = n'
 rotate_left
 ·have q : (n.toList == n'.toList) = false := by rw [beq_eq_false_iff_ne]; exact fun e => hn (toList_inj e)
  have HN := Aside0.mk hn
  clear hn
  go_enter Tryz.func14, Tryz.ntmps14
  go_wp2
  go_ret
  exact ⟨tells_no (fun h => HN.out (HP.out.mp h).1), bl⟩
 subst hn
 by_cases hb : b = b'
 rotate_left
 ·have q : (b == b') = false := by rw [beq_eq_false_iff_ne]; exact hb
  have HN := Aside0.mk hb
  clear hb
  go_enter Tryz.func14, Tryz.ntmps14
  go_wp2
  go_ret
  exact ⟨tells_no (fun h => HN.out (HP.out.mp h).2.1), bl⟩
 subst hb
 go_enter Tryz.func14, Tryz.ntmps14
 go_wp2_with (go_at_call 19; fail)
 refine calls_at ?_
 intro w1 hw1
 have b1 : Below w.heap.size w w1 := by rw [hw1]; repeat (first | exact Below.refl _ _ | apply b1_ | apply b2_ | apply b3_)
 have k1 : w1.heap[w.heap.size]? = some (.cells #[.string n, .bool b, .int .i64 T.f0, .int .i64 T.f1, .bool T.f2, .int .i64 T.f3, .int .i64 T.f4, .int .i64 T.f5, .string T.f6, .bool T.f7, .slice A8 T.f8.length c8, .slice A9 T.f9.length c9, .slice A12 0 c12] 30 (0, 0)) := by rw [hw1]; exact blk_alloc_ (blk_new _ _)
 have k2 : w1.heap[w.heap.size + 1]? = some (.cells #[.string n, .bool b, .int .i64 T'.f0, .int .i64 T'.f1, .bool T'.f2, .int .i64 T'.f3, .int .i64 T'.f4, .int .i64 T'.f5, .string T'.f6, .bool T'.f7, .slice A8' T'.f8.length c8', .slice A9' T'.f9.length c9', .slice A12' 0 c12'] 30 (0, 0)) := by rw [hw1]; exact blk_new_at (by rw [alloc_size_])
 clear hw1
 have HB := Aside0.mk (And.intro b1 (And.intro k1 k2))
 refine (HS.out.1 w1 A8 A9 A8' A9' c8 c9 c8' c9' (Kd.C_below HS.out.2.1 b1) (Kd.C_below HS.out.2.2.1 b1) (Kd.C_below HS.out.2.2.2.1 b1) (Kd.C_below HS.out.2.2.2.2 b1)).mono ?_
 clear b1 k1 k2
 rintro e w2 ⟨⟨r, rfl, hr⟩, hb2⟩
 have HR := Aside0.mk hr
 have HB2 := Aside0.mk (below_step HB.out.1 hb2)
 have y : w2.cell? ⟨w.heap.size, 12, none⟩ = some (.slice A12 0 c12) := (blk_cell (blk_below HB.out.2.1 hb2) 12).trans rfl
 have z : w2.cell? ⟨w.heap.size + 1, 12, none⟩ = some (.slice A12' 0 c12') := (blk_cell (blk_below HB.out.2.2 hb2) 12).trans rfl
 clear hb2 hr
 cases r with
 | false =>
  go_wp2
  go_ret
  exact ⟨tells_no (fun h => by have := HR.out.2 (HP.out.mp h).2.2; simp at this), HB2.out⟩
 | true =>
  go_wp2_with (go_at_call 28; fail)
  refine (pairs28 A12 A12' c12 c12' w2).mono ?_
  rintro e w3 ⟨rfl, hb3⟩
  have HB3 := Aside0.mk (below_step HB2.out hb3)
  clear hb3 y z
  go_wp2
  go_ret
  exact ⟨tells_yes (HP.out.mpr ⟨by first | rfl | trivial, by first | rfl | trivial, HR.out.1 (by first | rfl | trivial)⟩), HB3.out⟩
theorem fd_all {sub : S28 → DT → Prop} {fs : List S30} {ds : List DF} (h : All2 (FD sub) fs ds) : ∀ f ∈ fs, f.f3 = [] ∧ ∃ d1, sub f.f2 d1 := by
 induction h with
 | nil => intro f hf; cases hf
 | cons hab _ ih =>
  obtain ⟨n, T, t, rfl, rfl, hT, _⟩ := hab
  intro f hf
  rcases List.mem_cons.mp hf with rfl | hf
  ·exact ⟨rfl, _, hT⟩
  ·exact ih f hf
theorem td_inv {n : Nat} {T : S28} {d : DT} (h : TD (n + 1) T d) : T.f8.length ≤ 100 ∧ T.f9.length ≤ 100 ∧ (∀ f ∈ T.f9, f.f3 = [] ∧ ∃ d1, TD n f.f2 d1) ∧ (T.f0 = 27 → ∀ f ∈ T.f9, f.f0 = emp ∧ f.f1 = false) := by
 have one : ∀ (f : S30) (a : Prop), a → ∀ g ∈ [f], g = f := fun f a _ g hg => by simpa using hg
 cases h with
 | zero k w s u t h => exact ⟨by simp, by simp, fun f hf => (by cases hf), fun _ f hf => (by cases hf)⟩
 | time u t h => exact ⟨by simp, by simp, fun f hf => (by cases hf), fun _ f hf => (by cases hf)⟩
 | stamp u z h0 h1 h2 => exact ⟨by simp, by simp, fun f hf => (by cases hf), fun _ f hf => (by cases hf)⟩
 | dur u h0 h1 => exact ⟨by simp, by simp, fun f hf => (by cases hf), fun _ f hf => (by cases hf)⟩
 | dec w t p c h h0 h1 h2 h3 => exact ⟨by simp, by simp, fun f hf => (by cases hf), fun _ f hf => (by cases hf)⟩
 | fsb w h0 h1 => exact ⟨by simp, by simp, fun f hf => (by cases hf), fun _ f hf => (by cases hf)⟩
 | list k t T1 d1 h hs =>
  refine ⟨by simp, by simp, fun f hf => ?_, fun e => ?_⟩
  ·obtain rfl : f = _ := by simpa using hf
   exact ⟨rfl, _, hs⟩
  ·simp only [] at e
   subst e
   simp [listTab] at h
 | flist w T1 d1 h0 h1 hs =>
  refine ⟨by simp, by simp, fun f hf => ?_, fun e => (by simp at e)⟩
  obtain rfl : f = _ := by simpa using hf
  exact ⟨rfl, _, hs⟩
 | struct fs ds h hl => exact ⟨by simp, hl, fd_all h, fun e => (by simp at e)⟩
 | map K V dk dv fl he hk hv =>
  refine ⟨by simp, by simp, fun f hf => ?_, fun e => (by simp at e)⟩
  obtain rfl : f = _ := by simpa using hf
  exact ⟨rfl, _, he⟩
 | entries K V dk dv hk hv =>
  refine ⟨by simp, by simp, fun f hf => ?_, fun e => (by simp at e)⟩
  simp only [List.mem_cons, List.not_mem_nil, or_false] at hf
  rcases hf with rfl | rfl
  ·exact ⟨rfl, _, hk⟩
  ·exact ⟨rfl, _, hv⟩
 | union u t fs ds ids h hf h0 hl hi hr hd => exact ⟨by show ids.length ≤ 100; omega, hl, fd_all hf, fun e => (by simp at e)⟩
 | ree R V dr dv hr hv =>
  refine ⟨by simp, by simp, fun f hf => ?_, fun e => (by simp at e)⟩
  simp only [List.mem_cons, List.not_mem_nil, or_false] at hf
  rcases hf with rfl | rfl
  ·exact ⟨rfl, _, hr⟩
  ·exact ⟨rfl, _, hv⟩
 | dict I V di dv fl hi hv =>
  refine ⟨by simp, by simp, fun f hf => ?_, fun _ f hf => ?_⟩ <;> simp only [List.mem_cons, List.not_mem_nil, or_false] at hf <;> rcases hf with rfl | rfl
  ·exact ⟨rfl, _, hi⟩
  ·exact ⟨rfl, _, hv⟩
  ·exact ⟨rfl, rfl⟩
  ·exact ⟨rfl, rfl⟩
theorem s28_ext {T T' : S28} (h0 : T.f0 = T'.f0) (h1 : T.f1 = T'.f1) (h2 : T.f2 = T'.f2) (h3 : T.f3 = T'.f3) (h4 : T.f4 = T'.f4) (h5 : T.f5 = T'.f5) (h6 : T.f6 = T'.f6) (h7 : T.f7 = T'.f7) (h8 : T.f8 = T'.f8) (h9 : T.f9 = T'.f9) : T = T' := by
 cases T
 cases T'
 simp only at h0 h1 h2 h3 h4 h5 h6 h7 h8 h9
 subst h0 h1 h2 h3 h4 h5 h6 h7 h8 h9
 rfl
theorem sm19 (n : Nat) (ih : ∀ T1 T2 d1 d2, TD n T1 d1 → TD n T2 d2 → SmC T1 T2) (T T' : S28) (d d' : DT) (hd : TD (n + 1) T d) (hd' : TD (n + 1) T' d') : SmC T T' := by
 obtain ⟨l8, l9, hf, hk⟩ := td_inv hd
 obtain ⟨l8', l9', hf', hk'⟩ := td_inv hd'
 intro w A8 A9 A8' A9' c8 c9 c8' c9' g8 g9 g8' g9'
 have HS := Aside0.mk (And.intro ih (And.intro g8 (And.intro g9 (And.intro g8' (And.intro g9' (And.intro hf (And.intro hf' (And.intro hk hk'))))))))
 have HL := Aside0.mk (And.intro l8 (And.intro l9 (And.intro l8' l9')))
 obtain ⟨P, hP⟩ : ∃ P : Prop, P = (T = T') := ⟨_, rfl⟩
 rw [← hP]
 have HP := Aside0.mk hP
 clear hP ih g8 g9 g8' g9' hf hf' hk hk' l8 l9 l8' l9' hd hd'
 go_enter Tryz.func19, Tryz.ntmps19
 go_upto_region 1 with fail
 refine wp_at ?_
 intro w1 hw1
 have b1 : Below w.heap.size w w1 := by rw [hw1]; repeat (first | exact Below.refl _ _ | apply b1_ | apply b2_ | apply b3_)
 have k1 : w1.heap[w.heap.size]? = some (.cells #[.int .i64 T.f0, .int .i64 T.f1, .bool T.f2, .int .i64 T.f3, .int .i64 T.f4, .int .i64 T.f5, .string T.f6, .bool T.f7, .slice A8 T.f8.length c8, .slice A9 T.f9.length c9] 28 (0, 0)) := by rw [hw1]; exact blk_alloc_ (blk_new _ _)
 have k2 : w1.heap[w.heap.size + 1]? = some (.cells #[.int .i64 T'.f0, .int .i64 T'.f1, .bool T'.f2, .int .i64 T'.f3, .int .i64 T'.f4, .int .i64 T'.f5, .string T'.f6, .bool T'.f7, .slice A8' T'.f8.length c8', .slice A9' T'.f9.length c9'] 28 (0, 0)) := by rw [hw1]; exact blk_new_at (by rw [alloc_size_])
 clear hw1
 have HB := Aside0.mk (And.intro b1 (And.intro k1 k2))
 obtain ⟨y0, y1, y2, y3, y4, y5, y6, y7, y8, y9⟩ := cb10 k1
 obtain ⟨z0, z1, z2, z3, z4, z5, z6, z7, z8, z9⟩ := cb10 k2
 clear b1 k1 k2
 by_cases h0 : T.f0 = T'.f0
 rotate_left
 ·have q : (T.f0 != T'.f0) = true := by simpa using h0
  have q2 : (T.f0 == T'.f0) = false := by simpa using h0
  have q3 : (T.f0 = T'.f0) = False := eq_false h0
  have HN := Aside0.mk h0
  clear h0
  go_wp2
  go_ret
  exact ⟨tells_no (fun h => HN.out (by rw [HP.out.mp h])), HB.out.1⟩
 rw [← h0] at z0
 have E0 := Aside0.mk h0
 clear h0
 by_cases h1 : T.f1 = T'.f1
 rotate_left
 ·have q : (T.f1 != T'.f1) = true := by simpa using h1
  have q2 : (T.f1 == T'.f1) = false := by simpa using h1
  have q3 : (T.f1 = T'.f1) = False := eq_false h1
  have HN := Aside0.mk h1
  clear h1
  go_wp2
  go_ret
  exact ⟨tells_no (fun h => HN.out (by rw [HP.out.mp h])), HB.out.1⟩
 rw [← h1] at z1
 have E1 := Aside0.mk h1
 clear h1
 by_cases h2 : T.f2 = T'.f2
 rotate_left
 ·have q : (T.f2 != T'.f2) = true := by simpa using h2
  have q2 : (T.f2 == T'.f2) = false := by simpa using h2
  have q3 : (T.f2 = T'.f2) = False := eq_false h2
  have HN := Aside0.mk h2
  clear h2
  go_wp2
  go_ret
  exact ⟨tells_no (fun h => HN.out (by rw [HP.out.mp h])), HB.out.1⟩
 rw [← h2] at z2
 have E2 := Aside0.mk h2
 clear h2
 by_cases h3 : T.f3 = T'.f3
 rotate_left
 ·have q : (T.f3 != T'.f3) = true := by simpa using h3
  have q2 : (T.f3 == T'.f3) = false := by simpa using h3
  have q3 : (T.f3 = T'.f3) = False := eq_false h3
  have HN := Aside0.mk h3
  clear h3
  go_wp2
  go_ret
  exact ⟨tells_no (fun h => HN.out (by rw [HP.out.mp h])), HB.out.1⟩
 rw [← h3] at z3
 have E3 := Aside0.mk h3
 clear h3
 by_cases h4 : T.f4 = T'.f4
 rotate_left
 ·have q : (T.f4 != T'.f4) = true := by simpa using h4
  have q2 : (T.f4 == T'.f4) = false := by simpa using h4
  have q3 : (T.f4 = T'.f4) = False := eq_false h4
  have HN := Aside0.mk h4
  clear h4
  go_wp2
  go_ret
  exact ⟨tells_no (fun h => HN.out (by rw [HP.out.mp h])), HB.out.1⟩
 rw [← h4] at z4
 have E4 := Aside0.mk h4
 clear h4
 by_cases h5 : T.f5 = T'.f5
 rotate_left
 ·have q : (T.f5 != T'.f5) = true := by simpa using h5
  have q2 : (T.f5 == T'.f5) = false := by simpa using h5
  have q3 : (T.f5 = T'.f5) = False := eq_false h5
  have HN := Aside0.mk h5
  clear h5
  go_wp2
  go_ret
  exact ⟨tells_no (fun h => HN.out (by rw [HP.out.mp h])), HB.out.1⟩
 rw [← h5] at z5
 have E5 := Aside0.mk h5
 clear h5
 by_cases h6 : T.f6 = T'.f6
 rotate_left
 ·have q : (T.f6.toList == T'.f6.toList) = false := by rw [beq_eq_false_iff_ne]; exact fun e => h6 (toList_inj e)
  have q2 : (T.f6.toList != T'.f6.toList) = true := by simpa using fun e => h6 (toList_inj e)
  have HN := Aside0.mk h6
  clear h6
  go_wp2
  go_ret
  exact ⟨tells_no (fun h => HN.out (by rw [HP.out.mp h])), HB.out.1⟩
 rw [← h6] at z6
 have E6 := Aside0.mk h6
 clear h6
 by_cases h7 : T.f7 = T'.f7
 rotate_left
 ·have q : (T.f7 != T'.f7) = true := by simpa using h7
  have q2 : (T.f7 == T'.f7) = false := by simpa using h7
  have q3 : (T.f7 = T'.f7) = False := eq_false h7
  have HN := Aside0.mk h7
  clear h7
  go_wp2
  go_ret
  exact ⟨tells_no (fun h => HN.out (by rw [HP.out.mp h])), HB.out.1⟩
 rw [← h7] at z7
 have E7 := Aside0.mk h7
 clear h7
 by_cases h8 : T.f8.length = T'.f8.length
 rotate_left
 ·have hz : ¬ ((T.f8.length : Int) = (T'.f8.length : Int)) := by omega
  have q1 : decide ((T.f8.length : Int) = (T'.f8.length : Int)) = false := decide_eq_false hz
  have q2 : ((T.f8.length : Int) = (T'.f8.length : Int)) = False := eq_false hz
  have q3 : ((T.f8.length : Int) != (T'.f8.length : Int)) = true := by simpa using hz
  have q4 : (T.f8.length != T'.f8.length) = true := by simpa using h8
  have HN := Aside0.mk h8
  clear h8 hz
  go_wp2
  go_ret
  exact ⟨tells_no (fun h => HN.out (by rw [HP.out.mp h])), HB.out.1⟩
 rw [← h8] at z8
 have E8 := Aside0.mk h8
 clear h8
 by_cases h9 : T.f9.length = T'.f9.length
 rotate_left
 ·have hz : ¬ ((T.f9.length : Int) = (T'.f9.length : Int)) := by omega
  have q1 : decide ((T.f9.length : Int) = (T'.f9.length : Int)) = false := decide_eq_false hz
  have q2 : ((T.f9.length : Int) = (T'.f9.length : Int)) = False := eq_false hz
  have q3 : ((T.f9.length : Int) != (T'.f9.length : Int)) = true := by simpa using hz
  have q4 : (T.f9.length != T'.f9.length) = true := by simpa using h9
  have HN := Aside0.mk h9
  clear h9 hz
  go_wp2
  go_ret
  exact ⟨tells_no (fun h => HN.out (by rw [HP.out.mp h])), HB.out.1⟩
 rw [← h9] at z9
 have E9 := Aside0.mk h9
 clear h9
 have HY := Aside0.mk (And.intro y0 (And.intro y8 (And.intro z8 (And.intro y9 z9))))
 go_wp2
 clear y0 y1 y2 y3 y4 y5 y6 y7 y8 y9 z0 z1 z2 z3 z4 z5 z6 z7 z8 z9
 go_loopg [82] T.f8.length (fun kq v82 wr => ∃ i : Nat, v82 = .int .i64 (i : Int) ∧ Aside0 (i + kq = T.f8.length ∧ Below w1.heap.size w1 wr ∧ ∀ (k : Nat) (hk : k < T.f8.length) (hk' : k < T'.f8.length), k < i → T.f8[k] = T'.f8[k]))
 case atStart => exact ⟨0, rfl, ⟨⟨by omega, Below.refl _ _, fun k hk hk' h => absurd h (by omega)⟩⟩⟩
 case round =>
  obtain ⟨i, rfl, HR⟩ := hrel
  by_cases hi : i < T.f8.length
  ·have hd : decide ((i : Int) < (T.f8.length : Int)) = true := by simpa using hi
   have hi' : i < T'.f8.length := by have := E8.out; omega
   have e1 : wrap64 ((i : Int) + 1) = ((i + 1 : Nat) : Int) := by have := HL.out.1; rw [w64_id _ (by omega) (by omega)]; omega
   have EW := Aside0.mk e1
   clear e1
   have bw := below_step HB.out.1 HR.out.2.1
   obtain ⟨ad, rfl, hu⟩ := int_at HS.out.2.1 i hi
   obtain ⟨ad', rfl, hu'⟩ := int_at HS.out.2.2.2.1 i hi'
   have HI := Aside0.mk (And.intro hi hi')
   have y8 := pw_cell_below HR.out.2.1 HY.out.2.1
   have z8 := pw_cell_below HR.out.2.1 HY.out.2.2.1
   replace hu := pw_cell_below bw hu
   replace hu' := pw_cell_below bw hu'
   clear bw
   have qi : (i < T.f8.length) = True := eq_true hi
   have qi' : ((i : Int) < (T.f8.length : Int)) = True := eq_true (by omega)
   obtain ⟨u, eu⟩ : ∃ u, u = T.f8[i] := ⟨_, rfl⟩
   obtain ⟨u', eu'⟩ : ∃ u, u = T'.f8[i] := ⟨_, rfl⟩
   rw [← eu] at hu
   rw [← eu'] at hu'
   have HE := Aside0.mk (And.intro eu eu')
   clear eu eu'
   go_upto_region 6 with fail
   refine sc 11 (fun w' => Below wr.heap.size wr w' ∧ w'.cell? ⟨w.heap.size, 8, none⟩ = some (.slice (some ad) T.f8.length c8) ∧ w'.cell? ⟨w.heap.size + 1, 8, none⟩ = some (.slice (some ad') T.f8.length c8') ∧ w'.cell? (ad.add i) = some (.int .i64 u) ∧ w'.cell? (ad'.add i) = some (.int .i64 u')) (fun hk w2 hs hb => ?_)
   clear hu hu' y8 z8
   refine pu 0 85 1 ?_
   refine ta 1 86 3 ?_
   refine pu 2 87 7 ?_
   refine pu 3 88 15 ?_
   refine ta 4 89 31 ?_
   refine pu 5 90 63 ?_
   refine ta 6 91 127 ?_
   refine pu 7 92 255 ?_
   refine pu 8 93 511 ?_
   refine ta 9 94 1023 ?_
   refine pu 10 95 2047 ?_
   refine done_ (by kernel_rfl) ?_
   have HW := Aside0.mk (below_step HR.out.2.1 hs.1)
   clear hs hk hb
   by_cases hc : u = u'
   ·have q : (u != u') = false := by simpa using hc
    have HC := Aside0.mk hc
    clear hc
    go_wp2
    go_roundg (T.f8.length - (i + 1))
    case measure => have := HR.out.1; omega
    case rel =>
     refine ⟨i + 1, by first | (rw [EW.out]) | go_num, ⟨⟨by have := HR.out.1; omega, HW.out, fun j hj hj' hlt => ?_⟩⟩⟩
     by_cases hji : j < i
     ·exact HR.out.2.2 j hj hj' hji
     ·have e : j = i := by omega
      subst e
      rw [← HE.out.1, ← HE.out.2]
      exact HC.out
   ·have q : (u != u') = true := by simpa using hc
    have HC := Aside0.mk hc
    clear hc
    go_wp2
    go_ret
    exact ⟨tells_no (fun h => HC.out (by rw [HE.out.1, HE.out.2]; simp only [HP.out.mp h])), below_step HB.out.1 HW.out⟩
  have hd : decide ((i : Int) < (T.f8.length : Int)) = false := by simpa using hi
  have E8b := Aside0.mk (show T.f8 = T'.f8 from List.ext_getElem E8.out (fun k hk hk' => HR.out.2.2 k hk hk' (by omega)))
  have y9 := pw_cell_below HR.out.2.1 HY.out.2.2.2.1
  have y0 := pw_cell_below HR.out.2.1 HY.out.1
  have z9 := pw_cell_below HR.out.2.1 HY.out.2.2.2.2
  go_wp2
  clear y9 y0 z9
  go_loopg [100] T.f9.length (fun kq v100 wq => ∃ i : Nat, v100 = .int .i64 (i : Int) ∧ Aside0 (i + kq = T.f9.length ∧ Below w1.heap.size w1 wq ∧ ∀ (k : Nat) (hk : k < T.f9.length) (hk' : k < T'.f9.length), k < i → T.f9[k] = T'.f9[k]))
  case atStart => exact ⟨0, rfl, ⟨⟨by omega, HR.out.2.1, fun k hk hk' h => absurd h (by omega)⟩⟩⟩
  case round =>
   obtain ⟨i, rfl, HQ⟩ := hrel
   by_cases hi : i < T.f9.length
   rotate_left
   ·have hd : decide ((i : Int) < (T.f9.length : Int)) = false := by simpa using hi
    have HF := Aside0.mk (show T = T' from s28_ext E0.out E1.out E2.out E3.out E4.out E5.out E6.out E7.out E8b.out (List.ext_getElem E9.out (fun k hk hk' => HQ.out.2.2 k hk hk' (by omega))))
    go_wp2
    go_ret
    exact ⟨tells_yes (HP.out.mpr HF.out), below_step HB.out.1 HQ.out.2.1⟩
   have hd : decide ((i : Int) < (T.f9.length : Int)) = true := by simpa using hi
   have hi' : i < T'.f9.length := by have := E9.out; omega
   have e1 : wrap64 ((i : Int) + 1) = ((i + 1 : Nat) : Int) := by have := HL.out.2.1; rw [w64_id _ (by omega) (by omega)]; omega
   have EW := Aside0.mk e1
   clear e1
   have bw := below_step HB.out.1 HQ.out.2.1
   obtain ⟨ad, cs, rfl, hK, hc⟩ := at30 HS.out.2.2.1 i hi
   obtain ⟨ad', cs', rfl, hK', hc'⟩ := at30 HS.out.2.2.2.2.1 i hi'
   obtain ⟨f, ef⟩ : ∃ f, f = T.f9[i] := ⟨_, rfl⟩
   obtain ⟨f', ef'⟩ : ∃ f, f = T'.f9[i] := ⟨_, rfl⟩
   rw [← ef] at hK
   rw [← ef'] at hK'
   have mf : f ∈ T.f9 := ef ▸ List.getElem_mem hi
   have mf' : f' ∈ T'.f9 := ef' ▸ List.getElem_mem hi'
   obtain ⟨hm, d1, hd1⟩ := HS.out.2.2.2.2.2.1 f mf
   obtain ⟨hm', d2, hd2⟩ := HS.out.2.2.2.2.2.2.1 f' mf'
   have hdic := fun e => HS.out.2.2.2.2.2.2.2.1 e f mf
   have hdic' := fun e => HS.out.2.2.2.2.2.2.2.2 e f' mf'
   obtain ⟨n1, o1, T1, p1⟩ := f
   obtain ⟨n2, o2, T2, p2⟩ := f'
   obtain rfl : p1 = [] := hm
   obtain rfl : p2 = [] := hm'
   obtain ⟨A10, c10, A11, c11, A12, c12, rfl, l10, g10, l11, g11, l12, g12⟩ := k30_open hK
   obtain ⟨A10', c10', A11', c11', A12', c12', rfl, l10', g10', l11', g11', l12', g12'⟩ := k30_open hK'
   have HDD := Aside0.mk (And.intro (show TD n T1 d1 from hd1) (show TD n T2 d2 from hd2))
   have HDI := Aside0.mk (show T.f0 = 27 → n1 = n2 ∧ o1 = o2 from fun e => ⟨(hdic e).1.trans (hdic' (E0.out.symm.trans e)).1.symm, (hdic e).2.trans (hdic' (E0.out.symm.trans e)).2.symm⟩)
   have HGG := Aside0.mk (And.intro g10 (And.intro g11 (And.intro g10' g11')))
   have HEF := Aside0.mk (And.intro ef ef')
   have HK := Aside0.mk (show P → n1 = n2 ∧ o1 = o2 ∧ T1 = T2 from fun h => by
    have e := HP.out.mp h
    have e2 : (⟨n1, o1, T1, []⟩ : S30) = ⟨n2, o2, T2, []⟩ := by rw [ef, ef']; simp only [e]
    injection e2 with a1 a2 a3
    exact ⟨a1, a2, a3⟩)
   have HI := Aside0.mk (And.intro hi hi')
   have qi : (i < T.f9.length) = True := eq_true hi
   have qi' : ((i : Int) < (T.f9.length : Int)) = True := eq_true (by omega)
   have y0 := pw_cell_below HQ.out.2.1 HY.out.1
   have y9 := pw_cell_below HQ.out.2.1 HY.out.2.2.2.1
   have z9 := pw_cell_below HQ.out.2.1 HY.out.2.2.2.2
   obtain ⟨x0, x1, x2, x3, x4, x5, x6, x7, x8, x9, x10, x11, x12⟩ := fld13 (fun j u h => pw_cell_below bw (hc j u h)) rfl
   obtain ⟨u0, u1, u2, u3, u4, u5, u6, u7, u8, u9, u10, u11, u12⟩ := fld13 (fun j u h => pw_cell_below bw (hc' j u h)) rfl
   clear bw hc hc' hK hK' ef ef' mf mf' hd1 hd2 hdic hdic' l10 g10 l11 g11 l12 g12 l10' g10' l11' g11' l12' g12'
   by_cases h27 : T.f0 = 27
   ·have q : (T.f0 == 27) = true := by simpa using h27
    have H27 := Aside0.mk h27
    clear h27
    go_upto_region 13 with fail
    refine sc 14 (fun w' => Below wr.heap.size wr w' ∧ w'.cell? ⟨w.heap.size, 9, none⟩ = some (.slice (some ad) T.f9.length c9) ∧ w'.cell? ⟨w.heap.size + 1, 9, none⟩ = some (.slice (some ad') T.f9.length c9') ∧ w'.cell? ⟨(ad.add (i * 13)).block, (ad.add (i * 13)).off + 2, none⟩ = some (.int .i64 T1.f0) ∧ w'.cell? ⟨(ad.add (i * 13)).block, (ad.add (i * 13)).off + 3, none⟩ = some (.int .i64 T1.f1) ∧ w'.cell? ⟨(ad.add (i * 13)).block, (ad.add (i * 13)).off + 4, none⟩ = some (.bool T1.f2) ∧ w'.cell? ⟨(ad.add (i * 13)).block, (ad.add (i * 13)).off + 5, none⟩ = some (.int .i64 T1.f3) ∧ w'.cell? ⟨(ad.add (i * 13)).block, (ad.add (i * 13)).off + 6, none⟩ = some (.int .i64 T1.f4) ∧ w'.cell? ⟨(ad.add (i * 13)).block, (ad.add (i * 13)).off + 7, none⟩ = some (.int .i64 T1.f5) ∧ w'.cell? ⟨(ad.add (i * 13)).block, (ad.add (i * 13)).off + 8, none⟩ = some (.string T1.f6) ∧ w'.cell? ⟨(ad.add (i * 13)).block, (ad.add (i * 13)).off + 9, none⟩ = some (.bool T1.f7) ∧ w'.cell? ⟨(ad.add (i * 13)).block, (ad.add (i * 13)).off + 10, none⟩ = some (.slice A10 T1.f8.length c10) ∧ w'.cell? ⟨(ad.add (i * 13)).block, (ad.add (i * 13)).off + 11, none⟩ = some (.slice A11 T1.f9.length c11) ∧ w'.cell? ⟨(ad'.add (i * 13)).block, (ad'.add (i * 13)).off + 2, none⟩ = some (.int .i64 T2.f0) ∧ w'.cell? ⟨(ad'.add (i * 13)).block, (ad'.add (i * 13)).off + 3, none⟩ = some (.int .i64 T2.f1) ∧ w'.cell? ⟨(ad'.add (i * 13)).block, (ad'.add (i * 13)).off + 4, none⟩ = some (.bool T2.f2) ∧ w'.cell? ⟨(ad'.add (i * 13)).block, (ad'.add (i * 13)).off + 5, none⟩ = some (.int .i64 T2.f3) ∧ w'.cell? ⟨(ad'.add (i * 13)).block, (ad'.add (i * 13)).off + 6, none⟩ = some (.int .i64 T2.f4) ∧ w'.cell? ⟨(ad'.add (i * 13)).block, (ad'.add (i * 13)).off + 7, none⟩ = some (.int .i64 T2.f5) ∧ w'.cell? ⟨(ad'.add (i * 13)).block, (ad'.add (i * 13)).off + 8, none⟩ = some (.string T2.f6) ∧ w'.cell? ⟨(ad'.add (i * 13)).block, (ad'.add (i * 13)).off + 9, none⟩ = some (.bool T2.f7) ∧ w'.cell? ⟨(ad'.add (i * 13)).block, (ad'.add (i * 13)).off + 10, none⟩ = some (.slice A10' T2.f8.length c10') ∧ w'.cell? ⟨(ad'.add (i * 13)).block, (ad'.add (i * 13)).off + 11, none⟩ = some (.slice A11' T2.f9.length c11')) (fun hk w2 hs hb => ?_)
    clear y0 y9 z9 x0 u0 x1 u1 x2 u2 x3 u3 x4 u4 x5 u5 x6 u6 x7 u7 x8 u8 x9 u9 x10 u10 x11 u11 x12 u12 hb
    refine pu 0 106 1 ?_
    refine ta 1 107 3 ?_
    refine pu 2 108 7 ?_
    refine pu 3 109 15 ?_
    refine pu 4 110 31 ?_
    refine ta 5 111 63 ?_
    refine pu 6 112 127 ?_
    refine ta 7 113 255 ?_
    refine pu 8 114 511 ?_
    refine pu 9 115 1023 ?_
    refine pu 10 116 2047 ?_
    refine ta 11 117 4095 ?_
    have hB := below_step (below_step HB.out.1 HQ.out.2.1) hs.1
    refine ca 12 118 8191 Tryz.func19 #[.agg #[.int .i64 T1.f0, .int .i64 T1.f1, .bool T1.f2, .int .i64 T1.f3, .int .i64 T1.f4, .int .i64 T1.f5, .string T1.f6, .bool T1.f7, .slice A10 T1.f8.length c10, .slice A11 T1.f9.length c11], .agg #[.int .i64 T2.f0, .int .i64 T2.f1, .bool T2.f2, .int .i64 T2.f3, .int .i64 T2.f4, .int .i64 T2.f5, .string T2.f6, .bool T2.f7, .slice A10' T2.f8.length c10', .slice A11' T2.f9.length c11']] hk hs (HS.out.1 T1 T2 d1 d2 HDD.out.1 HDD.out.2 w2 A10 A11 A10' A11' c10 c11 c10' c11' (Kd.C_below HGG.out.1 hB) (Kd.C_below HGG.out.2.1 hB) (Kd.C_below HGG.out.2.2.1 hB) (Kd.C_below HGG.out.2.2.2 hB)) (fun e w3 hR hs3 hb3 => ?_)
    obtain ⟨r, rfl, hr⟩ := hR
    refine ⟨_, rfl, no 118 ?_⟩
    have HRR := Aside0.mk hr
    have HW := Aside0.mk (below_step HQ.out.2.1 hs3.1)
    clear hr hs hs3 hb3 hB hk
    cases r with
    | false =>
     refine pu 13 119 16383 ?_
     refine done_ (by kernel_rfl) ?_
     go_wp2
     go_ret
     exact ⟨tells_no (fun h => by have := HRR.out.2 ((HK.out h).2.2); simp at this), below_step HB.out.1 HW.out⟩
    | true =>
     refine pu 13 119 16383 ?_
     refine done_ (by kernel_rfl) ?_
     go_wp2
     go_roundg (T.f9.length - (i + 1))
     case measure => have := HQ.out.1; omega
     case rel =>
      refine ⟨i + 1, by first | (rw [EW.out]) | go_num, ⟨⟨by have := HQ.out.1; omega, HW.out, fun j hj hj' hlt => ?_⟩⟩⟩
      by_cases hji : j < i
      ·exact HQ.out.2.2 j hj hj' hji
      ·have e : j = i := by omega
       subst e
       rw [← HEF.out.1, ← HEF.out.2]
       rw [(HDI.out H27.out).1, (HDI.out H27.out).2, HRR.out.1 (by first | rfl | trivial)]
   ·have q : (T.f0 == 27) = false := by simpa using h27
    clear h27
    go_upto_region 15 with fail
    refine sc 12 (fun w' => Below wr.heap.size wr w' ∧ w'.cell? ⟨w.heap.size, 9, none⟩ = some (.slice (some ad) T.f9.length c9) ∧ w'.cell? ⟨w.heap.size + 1, 9, none⟩ = some (.slice (some ad') T.f9.length c9') ∧ w'.cell? (ad.add (i * 13)) = some (.string n1) ∧ w'.cell? ⟨(ad.add (i * 13)).block, (ad.add (i * 13)).off + 1, none⟩ = some (.bool o1) ∧ w'.cell? ⟨(ad.add (i * 13)).block, (ad.add (i * 13)).off + 2, none⟩ = some (.int .i64 T1.f0) ∧ w'.cell? ⟨(ad.add (i * 13)).block, (ad.add (i * 13)).off + 3, none⟩ = some (.int .i64 T1.f1) ∧ w'.cell? ⟨(ad.add (i * 13)).block, (ad.add (i * 13)).off + 4, none⟩ = some (.bool T1.f2) ∧ w'.cell? ⟨(ad.add (i * 13)).block, (ad.add (i * 13)).off + 5, none⟩ = some (.int .i64 T1.f3) ∧ w'.cell? ⟨(ad.add (i * 13)).block, (ad.add (i * 13)).off + 6, none⟩ = some (.int .i64 T1.f4) ∧ w'.cell? ⟨(ad.add (i * 13)).block, (ad.add (i * 13)).off + 7, none⟩ = some (.int .i64 T1.f5) ∧ w'.cell? ⟨(ad.add (i * 13)).block, (ad.add (i * 13)).off + 8, none⟩ = some (.string T1.f6) ∧ w'.cell? ⟨(ad.add (i * 13)).block, (ad.add (i * 13)).off + 9, none⟩ = some (.bool T1.f7) ∧ w'.cell? ⟨(ad.add (i * 13)).block, (ad.add (i * 13)).off + 10, none⟩ = some (.slice A10 T1.f8.length c10) ∧ w'.cell? ⟨(ad.add (i * 13)).block, (ad.add (i * 13)).off + 11, none⟩ = some (.slice A11 T1.f9.length c11) ∧ w'.cell? ⟨(ad.add (i * 13)).block, (ad.add (i * 13)).off + 12, none⟩ = some (.slice A12 0 c12) ∧ w'.cell? (ad'.add (i * 13)) = some (.string n2) ∧ w'.cell? ⟨(ad'.add (i * 13)).block, (ad'.add (i * 13)).off + 1, none⟩ = some (.bool o2) ∧ w'.cell? ⟨(ad'.add (i * 13)).block, (ad'.add (i * 13)).off + 2, none⟩ = some (.int .i64 T2.f0) ∧ w'.cell? ⟨(ad'.add (i * 13)).block, (ad'.add (i * 13)).off + 3, none⟩ = some (.int .i64 T2.f1) ∧ w'.cell? ⟨(ad'.add (i * 13)).block, (ad'.add (i * 13)).off + 4, none⟩ = some (.bool T2.f2) ∧ w'.cell? ⟨(ad'.add (i * 13)).block, (ad'.add (i * 13)).off + 5, none⟩ = some (.int .i64 T2.f3) ∧ w'.cell? ⟨(ad'.add (i * 13)).block, (ad'.add (i * 13)).off + 6, none⟩ = some (.int .i64 T2.f4) ∧ w'.cell? ⟨(ad'.add (i * 13)).block, (ad'.add (i * 13)).off + 7, none⟩ = some (.int .i64 T2.f5) ∧ w'.cell? ⟨(ad'.add (i * 13)).block, (ad'.add (i * 13)).off + 8, none⟩ = some (.string T2.f6) ∧ w'.cell? ⟨(ad'.add (i * 13)).block, (ad'.add (i * 13)).off + 9, none⟩ = some (.bool T2.f7) ∧ w'.cell? ⟨(ad'.add (i * 13)).block, (ad'.add (i * 13)).off + 10, none⟩ = some (.slice A10' T2.f8.length c10') ∧ w'.cell? ⟨(ad'.add (i * 13)).block, (ad'.add (i * 13)).off + 11, none⟩ = some (.slice A11' T2.f9.length c11') ∧ w'.cell? ⟨(ad'.add (i * 13)).block, (ad'.add (i * 13)).off + 12, none⟩ = some (.slice A12' 0 c12')) (fun hk w2 hs hb => ?_)
    clear y0 y9 z9 x0 u0 x1 u1 x2 u2 x3 u3 x4 u4 x5 u5 x6 u6 x7 u7 x8 u8 x9 u9 x10 u10 x11 u11 x12 u12 hb
    refine pu 0 120 1 ?_
    refine ta 1 121 3 ?_
    refine pu 2 122 7 ?_
    refine pu 3 123 15 ?_
    refine ta 4 124 31 ?_
    refine pu 5 125 63 ?_
    refine ta 6 126 127 ?_
    refine pu 7 127 255 ?_
    refine pu 8 128 511 ?_
    refine ta 9 129 1023 ?_
    have hB := below_step (below_step HB.out.1 HQ.out.2.1) hs.1
    refine ca 10 130 2047 Tryz.func14 #[.agg #[.string n1, .bool o1, .int .i64 T1.f0, .int .i64 T1.f1, .bool T1.f2, .int .i64 T1.f3, .int .i64 T1.f4, .int .i64 T1.f5, .string T1.f6, .bool T1.f7, .slice A10 T1.f8.length c10, .slice A11 T1.f9.length c11, .slice A12 0 c12], .agg #[.string n2, .bool o2, .int .i64 T2.f0, .int .i64 T2.f1, .bool T2.f2, .int .i64 T2.f3, .int .i64 T2.f4, .int .i64 T2.f5, .string T2.f6, .bool T2.f7, .slice A10' T2.f8.length c10', .slice A11' T2.f9.length c11', .slice A12' 0 c12']] hk hs (sm14 n1 n2 o1 o2 T1 T2 (HS.out.1 T1 T2 d1 d2 HDD.out.1 HDD.out.2) w2 A10 A11 A10' A11' c10 c11 c10' c11' A12 A12' c12 c12' (Kd.C_below HGG.out.1 hB) (Kd.C_below HGG.out.2.1 hB) (Kd.C_below HGG.out.2.2.1 hB) (Kd.C_below HGG.out.2.2.2 hB)) (fun e w3 hR hs3 hb3 => ?_)
    obtain ⟨r, rfl, hr⟩ := hR
    refine ⟨_, rfl, no 130 ?_⟩
    have HRR := Aside0.mk hr
    have HW := Aside0.mk (below_step HQ.out.2.1 hs3.1)
    clear hr hs hs3 hb3 hB hk
    cases r with
    | false =>
     refine pu 11 131 4095 ?_
     refine done_ (by kernel_rfl) ?_
     go_wp2
     go_ret
     exact ⟨tells_no (fun h => by have := HRR.out.2 (HK.out h); simp at this), below_step HB.out.1 HW.out⟩
    | true =>
     refine pu 11 131 4095 ?_
     refine done_ (by kernel_rfl) ?_
     go_wp2
     go_roundg (T.f9.length - (i + 1))
     case measure => have := HQ.out.1; omega
     case rel =>
      refine ⟨i + 1, by first | (rw [EW.out]) | go_num, ⟨⟨by have := HQ.out.1; omega, HW.out, fun j hj hj' hlt => ?_⟩⟩⟩
      by_cases hji : j < i
      ·exact HQ.out.2.2 j hj hj' hji
      ·have e : j = i := by omega
       subst e
       rw [← HEF.out.1, ← HEF.out.2]
       obtain ⟨a1, a2, a3⟩ := HRR.out.1 (by first | rfl | trivial)
       rw [a1, a2, a3]
end Go.Proofs.YteebgnhhjlgnjaaGreatDoor.V
