/- spec.Right. -/
import Derived.Test.YteebgnhhjlgnjaaGreatDoorRT1
import Derived.Test.YteebgnhhjlgnjaaGreatDoorRT2
import Derived.Test.YteebgnhhjlgnjaaGreatDoorRT3
import Derived.Test.YteebgnhhjlgnjaaGreatDoorEN
import Derived.Test.YteebgnhhjlgnjaaGreatDoorAD
namespace Go.Proofs.YteebgnhhjlgnjaaGreatDoor.V
open Go.RowKit Go.Proofs.YteebgnhhjlgnjaaGreatDoorW.PrintWords Go.Proofs.YteebgnhhjlgnjaaGreatDoorW.PrintLast Go.Proofs.YteebgnhhjlgnjaaGreatDoorW.PrintMore
set_option maxHeartbeats 40000000
set_option maxRecDepth 100000
set_option linter.unusedVariables false
set_option linter.unusedSimpArgs false
theorem right31 : ∀ (n : Nat), n ≤ 1000 → ∀ (T : S28) (w : World) (A8 A9 : Option Addr) (c8 c9 : Nat) (g8 : Kd.C (Kd.int .i64) w A8 T.f8.length T.f8) (l8 : T.f8.length ≤ c8) (g9 : Kd.C k30 w A9 T.f9.length T.f9) (l9 : T.f9.length ≤ c9), Calls Tryz.prog 31 #[.agg #[.int .i64 T.f0, .int .i64 T.f1, .bool T.f2, .int .i64 T.f3, .int .i64 T.f4, .int .i64 T.f5, .string T.f6, .bool T.f7, .slice A8 T.f8.length c8, .slice A9 T.f9.length c9], .int .i64 (n : Int)] w fun e w' => (∃ b, e = .returned (.bool b) ∧ (b = true → RightP n T)) ∧ Below w.heap.size w w'
 | n, hn, T, w, A8, A9, c8, c9, g8, l8, g9, l9 => by
  have ih : ∀ m, n = m + 1 → _ := fun m e => (right31 m (by omega))
  by_cases h2 : T.f0 = 16 ∨ T.f0 = 14 ∨ T.f0 = 17 ∨ T.f0 = 22
  ·exact right_head2 n hn ih T w A8 A9 c8 c9 g8 l8 g9 l9 h2
  ·by_cases h3 : T.f0 = 7
   ·exact right_head3 n hn ih T w A8 A9 c8 c9 g8 l8 g9 l9 h3
   ·exact right_head1 n hn ih T w A8 A9 c8 c9 g8 l8 g9 l9 (by omega)
termination_by n => n
decreasing_by omega
def AskedP (T : S28) : Prop := RightP 4 T ∧ UsualP T
theorem asked16 (T : S28) (w : World) (A8 A9 : Option Addr) (c8 c9 : Nat) (hT : Tabs w) (hS : SzT T) (g8 : Kd.C (Kd.int .i64) w A8 T.f8.length T.f8) (l8 : T.f8.length ≤ c8) (g9 : Kd.C k30 w A9 T.f9.length T.f9) (l9 : T.f9.length ≤ c9) :
 Calls Tryz.prog 16 #[.agg #[.int .i64 T.f0, .int .i64 T.f1, .bool T.f2, .int .i64 T.f3, .int .i64 T.f4, .int .i64 T.f5, .string T.f6, .bool T.f7, .slice A8 T.f8.length c8, .slice A9 T.f9.length c9]] w fun e w' => (∃ b, e = .returned (.bool b) ∧ (b = true → AskedP T)) ∧ Below w.heap.size w w' := by
 have HC := Aside0.mk (And.intro hT (And.intro hS (And.intro g8 (And.intro l8 (And.intro g9 l9)))))
 clear hT hS g8 l8 g9 l9
 go_enter Tryz.func16, Tryz.ntmps16
 go_wp2_with (go_at_call 31; fail)
 refine calls_at ?_
 intro w1 hw1
 have b1 : Below w.heap.size w w1 := by rw [hw1]; repeat (first | exact Below.refl _ _ | apply b1_ | apply b2_ | apply b3_)
 have k1 : w1.heap[w.heap.size]? = some (.cells #[.int .i64 T.f0, .int .i64 T.f1, .bool T.f2, .int .i64 T.f3, .int .i64 T.f4, .int .i64 T.f5, .string T.f6, .bool T.f7, .slice A8 T.f8.length c8, .slice A9 T.f9.length c9] 28 (0, 0)) := by rw [hw1]; first | exact blk_new _ _ | exact blk_drew_ (blk_new _ _)
 clear hw1
 have HB := Aside0.mk (And.intro b1 k1)
 refine (right31 4 (by omega) T w1 A8 A9 c8 c9 (Kd.C_below HC.out.2.2.1 b1) HC.out.2.2.2.1 (Kd.C_below HC.out.2.2.2.2.1 b1) HC.out.2.2.2.2.2).mono ?_
 clear b1 k1
 rintro e w2 ⟨⟨b, rfl, hb⟩, hb2⟩
 have HR := Aside0.mk hb
 have HB2 := Aside0.mk (And.intro (below_step HB.out.1 hb2) (blk_below HB.out.2 hb2))
 clear hb hb2
 obtain ⟨y0, y1, y2, y3, y4, y5, y6, y7, y8, y9⟩ := cb10 HB2.out.2
 cases b with
 | false =>
  go_wp2
  go_ret
  exact ⟨⟨_, rfl, fun e => (by first | (cases e; done) | (simp at e))⟩, HB2.out.1⟩
 | true =>
  go_wp2_with (go_at_call 32; fail)
  refine (usual_all 4 T w2 A8 A9 c8 c9 (HC.out.1.step HB2.out.1) (HR.out (by first | rfl | trivial)) HC.out.2.1 (Kd.C_below HC.out.2.2.2.2.1 HB2.out.1)).mono ?_
  rintro e w3 ⟨⟨b, rfl, hb⟩, hb3⟩
  have HU := Aside0.mk (And.intro hb (below_step HB2.out.1 hb3))
  clear hb hb3 y0 y1 y2 y3 y4 y5 y6 y7 y8 y9
  cases b with
  | false =>
   go_wp2
   go_ret
   first | exact ⟨⟨_, rfl, fun e => (by first | (cases e; done) | (simp at e))⟩, HU.out.2⟩ | exact ⟨Or.inl rfl, HU.out.2⟩
  | true =>
   go_wp2
   go_ret
   first | exact ⟨⟨_, rfl, fun _ => ⟨HR.out (by first | rfl | trivial), HU.out.1 (by first | rfl | trivial)⟩⟩, HU.out.2⟩ | exact ⟨Or.inr ⟨rfl, HR.out (by first | rfl | trivial), HU.out.1 (by first | rfl | trivial)⟩, HU.out.2⟩
end Go.Proofs.YteebgnhhjlgnjaaGreatDoor.V
