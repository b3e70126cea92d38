/- What a half's Float32 gives; what is compared with it. -/
import Derived.Test.YtmgpmmmoegjlbaaHB
namespace Go.Proofs.Ytmgpmmmoegjlbaa.V
open Go.RowKit
set_option linter.unusedVariables false
theorem v32 (s r m : Nat) (R : Int) (hs : s < 2) (hr : r < 256) (hm : m < 1024) (hR : R = ((8388608 * r : Nat) : Int)) :
    (bits .or .u32 (bits .or .u32 ((s : Int) * 2147483648) R) ((m : Int) * 8192)).toNat = 2147483648 * s + 8388608 * r + 8192 * m := by
  rw [hR, show (s : Int) * 2147483648 = ((2147483648 * s : Nat) : Int) by omega, show (m : Int) * 8192 = ((8192 * m : Nat) : Int) by omega, or1 s r hs hr, or2 s r m hs hr hm]
  rfl
theorem ret32 {a b : Nat} (h : a = b) : Ending.returned (.float .f32 a) = .returned (.float .f32 b) := by rw [h]
theorem float32_ (s e m : Nat) (w : World) (hs : s < 2) (he : e < 32) (hm : m < 1024) : Calls Try.prog 13 #[.agg #[.int .u16 (hb s e m)]] w fun e' w' => e' = .returned (.float .f32 (h32 s e m)) ∧ Below w.heap.size w w' := by
  have f1 := b_sign s e m hs he hm
  have f2 := b_exp s e m hs he hm
  have f3 := b_frac s e m hs he hm
  have hfrom := f32from
  by_cases c0 : e = 0
  · subst c0
    go_enter Try.func13, Try.ntmps13
    go_wp2_with (simp only [hfrom])
    go_ret
    exact ⟨ret32 (v32 s 0 m _ hs (by omega) hm rfl), (Below.refl _ _).alloc (Nat.le_refl _) _⟩
  · have t0 : ((e : Int) == 0) = false := by simpa using c0
    by_cases c1 : e = 31
    · subst c1
      go_enter Try.func13, Try.ntmps13
      go_wp2_with (simp only [hfrom])
      go_ret
      exact ⟨ret32 (v32 s 255 m _ hs (by omega) hm rfl), (Below.refl _ _).alloc (Nat.le_refl _) _⟩
    · have t1 : ((e : Int) == 31) = false := by simp; omega
      have hr : h32 s e m = 2147483648 * s + 8388608 * (e + 112) + 8192 * m := by unfold h32 r32; rw [if_neg c0, if_neg c1]
      have HR := Lib.hid hr
      clear hr
      go_enter Try.func13, Try.ntmps13
      go_wp2_with (simp only [hfrom])
      go_ret
      exact ⟨ret32 ((v32 s (e + 112) m _ hs (by omega) hm (by omega)).trans HR.out.symm), (Below.refl _ _).alloc (Nat.le_refl _) _⟩
theorem frombits_ (b : Int) (w : World) : Calls Try.prog 12 #[.int .u16 b] w fun e w' => e = .returned (.agg #[.int .u16 b]) ∧ Below w.heap.size w w' := by
  go_enter Try.func12, Try.ntmps12
  go_wp2
  refine bodyPost_ret (v := .agg #[.int .u16 b]) (by simp [results, Try.results12, go_sem]) rfl ⟨rfl, ?_⟩
  repeat (first | refine Below.setCell ?_ (by simp; try omega) _)
  exact (Below.refl _ _).alloc (Nat.le_refl _) _
theorem halfFloat_ (s e m : Nat) (w : World) (hs : s < 2) (he : e < 32) (hm : m < 1024) : Calls Try.prog 7 #[.int .u16 (hb s e m)] w fun e' w' => e' = .returned (.float .f32 (h32 s e m)) ∧ Below w.heap.size w w' := by
  go_enter Try.func7, Try.ntmps7
  go_wp2_with (first | (go_at_call 12; refine (frombits_ _ _).mono ?_; rintro e' w1 ⟨rfl, hb1⟩) | (go_at_call 13; refine (float32_ s e m _ hs he hm).mono ?_; rintro e' w2 ⟨rfl, hb2⟩))
  go_ret
  exact ⟨rfl, hb1.trans (hb2.mono hb1.size)⟩
theorem uint16_ (b : Int) (w : World) : Calls Try.prog 24 #[.agg #[.int .u16 b]] w fun e w' => e = .returned (.int .u16 b) ∧ Below w.heap.size w w' := by
  go_enter Try.func24, Try.ntmps24
  go_wp2
  go_ret
  exact ⟨rfl, (Below.refl _ _).alloc (Nat.le_refl _) _⟩
theorem new1 (w : World) : Calls Try.prog 23 #[.float .f32 1065353216] w fun e' w' => e' = .returned (.agg #[.int .u16 15360]) ∧ Below w.heap.size w w' := by
  have hb' := f32bits 1065353216
  have k1 : bits .and .u32 0 1 = 0 := rfl
  have k2 : bits .and .u32 127 255 = 127 := rfl
  have k3 : bits .and .u16 (IntKind.u16.wrap 130048) 1023 = 0 := rfl
  have k4 : bits .or .u16 0 15360 = 15360 := rfl
  have k5 : bits .or .u16 15360 0 = 15360 := rfl
  go_enter Try.func23, Try.ntmps23
  go_wp2_with (simp only [hb'])
  refine bodyPost_ret (v := .agg #[.int .u16 15360]) (by simp [results, Try.results23, go_sem]) rfl ⟨rfl, ?_⟩
  repeat (first | refine Below.setCell ?_ (by simp; try omega) _)
  exact (Below.refl _ _).alloc (Nat.le_refl _) _
theorem halfNew1 (w : World) : Calls Try.prog 10 #[.float .f32 1065353216] w fun e' w' => e' = .returned (.int .u16 15360) ∧ Below w.heap.size w w' := by
  go_enter Try.func10, Try.ntmps10
  go_wp2_with (first | (go_at_call 23; refine (new1 _).mono ?_; rintro e' w1 ⟨rfl, hb1⟩) | (go_at_call 24; refine (uint16_ _ _).mono ?_; rintro e' w2 ⟨rfl, hb2⟩))
  go_ret
  exact ⟨rfl, hb1.trans (hb2.mono hb1.size)⟩
end Go.Proofs.Ytmgpmmmoegjlbaa.V
