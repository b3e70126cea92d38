/- The law FnHalfFloat, walked. -/
import Derived.Test.YtmgpmmmoegjlbaaHL
namespace Go.Proofs.Ytmgpmmmoegjlbaa.V
open Go.RowKit
set_option linter.unusedVariables false
theorem law_ (s e m : Nat) (w : World) (hs : s < 2) (he : e < 32) (hm : m < 1024) : Calls Try.prog 3 #[.int .u16 (hb s e m)] w fun e' w' => e' = .returned (.bool true) ∧ Below w.heap.size w w' := by
  have hU := fun w => usual_ s e m w hs he hm
  obtain ⟨u, hu⟩ : ∃ u, usual e m = u := ⟨_, rfl⟩
  cases u
  · rw [hu] at hU
    clear hu
    go_enter Try.func3, Try.ntmps3
    go_wp2_with (first | (go_at_call 5; refine (halves_ _).mono ?_; rintro e' w1 ⟨rfl, hb1⟩) | (go_at_call 6; refine (hU _).mono ?_; rintro e' w2 ⟨rfl, hb2⟩))
    go_ret
    exact ⟨rfl, hb1.trans (hb2.mono hb1.size)⟩
  · have hV := fun w => value_ s e m w hs he hm hu
    have hF := fun w => halfFloat_ s e m w hs he hm
    have hc := fun w => run_convert_float_float (P := Try.prog) w 26 25 .f32 .f64 (h32 s e m) (v64 s e m) (by kernel_rfl) Try.underlying25 (conv_ s e m hs he hm hu)
    have ho : (FloatKind.f64.format.order (v64 s e m) (v64 s e m) == some Ordering.eq) = true := by
      show (Ieee.double.order _ _ == _) = true
      rw [order_refl s e m hs he hm hu]; rfl
    rw [hu] at hU
    clear hu
    go_enter Try.func3, Try.ntmps3
    go_wp2_with (first | (go_at_call 5; refine (halves_ _).mono ?_; rintro e' w1 ⟨rfl, hb1⟩) | (go_at_call 6; refine (hU _).mono ?_; rintro e' w2 ⟨rfl, hb2⟩) | (go_at_call 7; refine (hF _).mono ?_; rintro e' w3 ⟨rfl, hb3⟩) | (go_at_call 8; refine (hV _).mono ?_; rintro e' w4 ⟨rfl, hb4⟩))
    go_ret
    have g1 := hb1.size
    have g2 := hb2.size
    have g3 := hb3.size
    exact ⟨rfl, ((hb1.trans (hb2.mono g1)).trans (hb3.mono (Nat.le_trans g1 g2))).trans (hb4.mono (Nat.le_trans (Nat.le_trans g1 g2) g3))⟩
theorem fields_ (b : Int) (h0 : 0 ≤ b) (h1 : b < 65536) : ∃ s e m : Nat, b = hb s e m ∧ s < 2 ∧ e < 32 ∧ m < 1024 :=
  ⟨(b / 32768).toNat, (b / 1024 % 32).toNat, (b % 1024).toNat, by unfold hb; omega, by omega, by omega, by omega⟩
end Go.Proofs.Ytmgpmmmoegjlbaa.V
