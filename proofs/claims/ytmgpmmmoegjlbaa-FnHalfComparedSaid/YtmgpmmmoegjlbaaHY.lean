/- The law FnHalfCompared: what it answers at every two halves. -/
import Derived.Test.YtmgpmmmoegjlbaaHX
import Derived.Test.YtmgpmmmoegjlbaaHW
namespace Go.Proofs.Ytmgpmmmoegjlbaa.V
open Go.RowKit Go.Proofs.YtmgpmmmoegjlbaaW.PrintWords Go.Proofs.YtmgpmmmoegjlbaaW.PrintLast Go.Proofs.YtmgpmmmoegjlbaaW.PrintMore
set_option linter.unusedVariables false
theorem law2_one (A B : Int) (w : World) (hU : ∀ w, Calls Try.prog 6 #[.int .u16 A] w fun x w' => x = .returned (.bool false) ∧ Below w.heap.size w w') :
    Calls Try.prog 4 #[.int .u16 A, .int .u16 B] w fun x w' => x = .returned (.bool true) ∧ Below w.heap.size w w' := by
  go_enter Try.func4, Try.ntmps4
  go_wp2_with (first | (go_at_call 6; (with_reducible refine (hU _).mono ?_); rintro x w1 ⟨rfl, hb1⟩) | (go_at_call 5; (with_reducible refine (halves_ _).mono ?_); rintro x w2 ⟨rfl, hb2⟩))
  go_ret
  exact ⟨rfl, hb1.trans (hb2.mono hb1.size)⟩
theorem law2_two (A B : Int) (w : World) (hU : ∀ w, Calls Try.prog 6 #[.int .u16 A] w fun x w' => x = .returned (.bool true) ∧ Below w.heap.size w w') (hU2 : ∀ w, Calls Try.prog 6 #[.int .u16 B] w fun x w' => x = .returned (.bool false) ∧ Below w.heap.size w w') :
    Calls Try.prog 4 #[.int .u16 A, .int .u16 B] w fun x w' => x = .returned (.bool true) ∧ Below w.heap.size w w' := by
  go_enter Try.func4, Try.ntmps4
  go_wp2_with (first | (go_at_call 6; (with_reducible refine (hU _).mono ?_); rintro x w1 ⟨rfl, hb1⟩) | (go_at_call 6; (with_reducible refine (hU2 _).mono ?_); rintro x w3 ⟨rfl, hb3⟩) | (go_at_call 5; (with_reducible refine (halves_ _).mono ?_); rintro x w2 ⟨rfl, hb2⟩))
  go_ret
  exact ⟨rfl, (hb1.trans (hb3.mono hb1.size)).trans (hb2.mono (Nat.le_trans hb1.size hb3.size))⟩
theorem law2_ (s e m s' e' m' : Nat) (w : World) (hs : s < 2) (he : e < 32) (hm : m < 1024) (hs' : s' < 2) (he' : e' < 32) (hm' : m' < 1024) :
    Calls Try.prog 4 #[.int .u16 (hb s e m), .int .u16 (hb s' e' m')] w fun x w' => x = .returned (.bool true) ∧ Below w.heap.size w w' := by
  have hU := fun w => usual_ s e m w hs he hm
  have hU2 := fun w => usual_ s' e' m' w hs' he' hm'
  by_cases c : usual e m = true
  · by_cases d : usual e' m' = true
    · have ho := order_s s e m s' e' m' hs he hm c hs' he' hm' d
      have ho2 := order_d s e m s' e' m' hs he hm c hs' he' hm' d
      have hX := fun w => value_ s e m w hs he hm c
      have hY := fun w => value_ s' e' m' w hs' he' hm' d
      rw [c] at hU
      rw [d] at hU2
      generalize compare (hk s e m) (hk s' e' m') = o at *
      have hl := fun w => less_ s e m s' e' m' hs he hm hs' he' hm' o ho w
      have hg := fun w => greater_ s e m s' e' m' hs he hm hs' he' hm' o ho w
      exact law2_main _ _ _ _ o w hU hU2 hX hY
        (fun w => compared_ _ _ (oi o) (o == .eq) (o == .lt) (o == .lt || o == .eq) (o == .gt) (o == .gt || o == .eq) w
          (fun w => cmp_ _ _ o w hg hl) (fun w => equal_ s e m s' e' m' hs he hm hs' he' hm' o ho w) hl (fun w => lessEq_ s e m s' e' m' hs he hm hs' he' hm' o ho w) hg (fun w => greaterEq_ s e m s' e' m' hs he hm hs' he' hm' o ho w)) ho2
    · rw [c] at hU
      rw [Bool.not_eq_true _ |>.mp d] at hU2
      exact law2_two _ _ w hU hU2
  · rw [Bool.not_eq_true _ |>.mp c] at hU
    exact law2_one _ _ w hU
end Go.Proofs.Ytmgpmmmoegjlbaa.V
