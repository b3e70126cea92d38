/- A half's float as a double; the laws' own helpers. -/
import Derived.Test.YtmgpmmmoegjlbaaHV
namespace Go.Proofs.Ytmgpmmmoegjlbaa.V
open Go.RowKit Ieee
set_option linter.unusedVariables false
set_option linter.unusedSimpArgs false
def usual (e m : Nat) : Bool := if e = 31 ∨ e = 0 then decide (m = 0) else true
theorem halfNaN_ (s e m : Nat) (w : World) (hs : s < 2) (he : e < 32) (hm : m < 1024) (r : Bool) (hr : (decide (e = 31) && !decide (m = 0)) = r) : Calls Try.prog 11 #[.int .u16 (hb s e m)] w fun e' w' => e' = .returned (.bool r) ∧ Below w.heap.size w w' := by
  have f2 := b_exp s e m hs he hm
  have f3 := b_frac s e m hs he hm
  by_cases c : e = 31
  · by_cases d : m = 0
    · subst c; subst d; subst hr
      go_enter Try.func11, Try.ntmps11
      go_wp2
      go_ret
      exact ⟨rfl, Below.refl _ _⟩
    · have hr' : r = true := by rw [← hr]; simp [c, d]
      subst hr'
      clear hr
      subst c
      have t2 : ((m : Int) != 0) = true := by simp; omega
      clear d
      go_enter Try.func11, Try.ntmps11
      go_wp2
      go_ret
      exact ⟨rfl, Below.refl _ _⟩
  · have t1 : ((e : Int) == 31) = false := by simp; omega
    have hr' : r = false := by rw [← hr]; simp [c]
    subst hr'
    clear hr c
    go_enter Try.func11, Try.ntmps11
    go_wp2
    go_ret
    exact ⟨rfl, Below.refl _ _⟩
theorem usual_a (s e m : Nat) (w : World) (b1 b2 b3 : Bool) (f2 : bits .and .u16 ((hb s e m : Int) / 1024) 31 = e) (f3 : bits .and .u16 (hb s e m : Int) 1023 = m)
    (hn : ∀ w, Calls Try.prog 11 #[.int .u16 (hb s e m)] w fun e' w' => e' = .returned (.bool b1) ∧ Below w.heap.size w w') (t1 : ((e : Int) != 0) = b2) (t2 : ((m : Int) == 0) = b3) :
    Calls Try.prog 6 #[.int .u16 (hb s e m)] w fun e' w' => e' = .returned (.bool (!b1 && (b2 || b3))) ∧ Below w.heap.size w w' := by
  cases b1
  · cases b2
    · go_enter Try.func6, Try.ntmps6
      go_wp2_with (go_at_call 11; refine (hn _).mono ?_; rintro e' w1 ⟨rfl, hb1⟩)
      go_ret
      exact ⟨rfl, hb1⟩
    · go_enter Try.func6, Try.ntmps6
      go_wp2_with (go_at_call 11; refine (hn _).mono ?_; rintro e' w1 ⟨rfl, hb1⟩)
      go_ret
      exact ⟨rfl, hb1⟩
  · go_enter Try.func6, Try.ntmps6
    go_wp2_with (go_at_call 11; refine (hn _).mono ?_; rintro e' w1 ⟨rfl, hb1⟩)
    go_ret
    exact ⟨rfl, hb1⟩
theorem usual_ (s e m : Nat) (w : World) (hs : s < 2) (he : e < 32) (hm : m < 1024) : Calls Try.prog 6 #[.int .u16 (hb s e m)] w fun e' w' => e' = .returned (.bool (usual e m)) ∧ Below w.heap.size w w' := by
  have h := usual_a s e m w _ _ _ (b_exp s e m hs he hm) (b_frac s e m hs he hm) (fun w => halfNaN_ s e m w hs he hm _ rfl) rfl rfl
  have e1 : (!(decide (e = 31) && !decide (m = 0)) && (((e : Int) != 0) || ((m : Int) == 0))) = usual e m := by
    unfold usual
    have a1 : ((e : Int) != 0) = !decide (e = 0) := by by_cases c : e = 0 <;> simp [c]
    have a2 : ((m : Int) == 0) = decide (m = 0) := by by_cases c : m = 0 <;> simp [c]
    rw [a1, a2]
    by_cases c : e = 31
    · by_cases d : m = 0 <;> simp [c, d]
    · by_cases d : e = 0
      · by_cases g : m = 0 <;> simp [d, g]
      · simp [c, d]
  rw [e1] at h
  exact h
theorem halves_ (w : World) : Calls Try.prog 5 #[] w fun e' w' => e' = .returned (.bool true) ∧ Below w.heap.size w w' := by
  have h1 := fun w => halfFloat_ 0 15 0 w (by omega) (by omega) (by omega)
  have e1 : hb 0 15 0 = 15360 := rfl
  have e2 : h32 0 15 0 = 1065353216 := rfl
  rw [e1, e2] at h1
  clear e1 e2
  have ho : (FloatKind.f32.format.order 1065353216 1065353216 == some Ordering.eq) = true := by decide +kernel
  go_enter Try.func5, Try.ntmps5
  go_wp2_with (first | (go_at_call 10; refine (halfNew1 _).mono ?_; rintro e' w1 ⟨rfl, hb1⟩) | (go_at_call 7; refine (h1 _).mono ?_; rintro e' w2 ⟨rfl, hb2⟩))
  go_ret
  exact ⟨rfl, hb1.trans (hb2.mono hb1.size)⟩
/-- The double that a half is, by its fields. -/
def r64 (e : Nat) : Nat := if e = 0 then 0 else if e = 31 then 2047 else e + 1008
def v64 (s e m : Nat) : Nat := dw s (r64 e) (4398046511104 * m)
theorem value_ (s e m : Nat) (w : World) (hs : s < 2) (he : e < 32) (hm : m < 1024) (hu : usual e m = true) : Calls Try.prog 8 #[.int .u16 (hb s e m)] w fun e' w' => e' = .returned (.float .f64 (v64 s e m)) ∧ Below w.heap.size w w' := by
  by_cases c0 : e = 0
  · subst c0
    obtain rfl : m = 0 := by simpa [usual] using hu
    have := value0 s w hs
    rw [show v64 s 0 0 = 9223372036854775808 * s by simp [v64, dw, r64]]
    exact this
  · by_cases c1 : e = 31
    · subst c1
      obtain rfl : m = 0 := by simpa [usual] using hu
      have := value31 s w hs
      rw [show v64 s 31 0 = 9223372036854775808 * s + 9218868437227405312 by simp [v64, dw, r64]]
      exact this
    · have := valueN s e m w hs (by omega) (by omega) hm
      rw [show v64 s e m = dw s (e + 1008) (4398046511104 * m) by unfold v64 r64; rw [if_neg c0, if_neg c1]]
      exact this
/-- A normal single. -/
theorem read_sw (s E F : Nat) (hs : s < 2) (h1 : 1 ≤ E) (h2 : E ≤ 254) (hF : F < 8388608) : single.read (2147483648 * s + (8388608 * E + F)) = .number (decide (s = 1)) (8388608 + F) (-149 + ((E - 1 : Nat) : Int)) := by
  have e1 : single.signWeight = 2147483648 := rfl
  have e2 : single.binade = 8388608 := rfl
  have e3 : single.infRung = 2139095040 := rfl
  have e4 : single.leastPlace = -149 := rfl
  have d1 : (2147483648 * s + (8388608 * E + F)) / 2147483648 = s := by omega
  have d2 : (2147483648 * s + (8388608 * E + F)) % 2147483648 = 8388608 * E + F := by omega
  have d3 : (8388608 * E + F) % 8388608 = F := by omega
  have d4 : (8388608 * E + F) / 8388608 = E := by omega
  unfold Format.read
  simp only [e1, e2, e3, e4, d1, d2, d3, d4]
  rw [if_neg (by omega), if_pos (by omega), sgn_one s hs]
theorem near_s (t : Bool) (e m : Nat) (h1 : 1 ≤ e) (h2 : e ≤ 30) (hm : m < 1024) :
    double.nearest t (8388608 + 8192 * m) (-149 + ((e + 112 - 1 : Nat) : Int)) = (if t then 9223372036854775808 else 0) + (4503599627370496 * (e + 1008) + 4398046511104 * m) := by
  have e2 : double.binade = 4503599627370496 := rfl
  have e3 : double.infRung = 9218868437227405312 := rfl
  have e4 : double.leastPlace = -1074 := rfl
  have e5 : (double.fractionBits : Int) = 52 := rfl
  have hl : (8388608 + 8192 * m).log2 = 23 := log2_of (by omega) (by omega)
  unfold Format.nearest
  rw [if_neg (by omega)]
  simp only [hl, e2, e3, e4, e5]
  have k1 : max (-149 + ((e + 112 - 1 : Nat) : Int) + ((23 : Nat) : Int) - 52) (-1074) = -149 + ((e + 112 - 1 : Nat) : Int) - 29 := by omega
  rw [k1]
  have k2 : (-149 + ((e + 112 - 1 : Nat) : Int) - (-149 + ((e + 112 - 1 : Nat) : Int) - 29)).toNat = 29 := by omega
  have k3 : (-149 + ((e + 112 - 1 : Nat) : Int) - 29 - (-149 + ((e + 112 - 1 : Nat) : Int))).toNat = 0 := by omega
  have k4 : (-149 + ((e + 112 - 1 : Nat) : Int) - 29 - -1074).toNat = e + 1007 := by omega
  rw [k2, k3, k4]
  have hc : Toward.even.cut t ((8388608 + 8192 * m) <<< 29) 0 = 536870912 * (8388608 + 8192 * m) := by
    have g0 : (8388608 + 8192 * m) <<< 29 = 536870912 * (8388608 + 8192 * m) := by rw [Nat.shiftLeft_eq]; omega
    rw [g0]
    unfold Toward.cut
    have g : ∀ q : Nat, (1 : Nat) <<< min 0 q = 1 := fun q => by rw [Nat.zero_min]; rfl
    simp only [g, Nat.div_one, Nat.mod_one]
    rfl
  rw [hc, word_d, Nat.min_eq_left (by omega)]
  generalize (if t = true then 9223372036854775808 else 0) = g
  omega
theorem f2f (x : Nat) : floatToFloatBits .f32 x .f64 = (match single.read x with | .nan _ _ => none | .infinity s => some (double.write (.infinity s)) | .number s m e => if (double.read (double.write (.number s m e))).isInfinity then none else some (double.write (.number s m e))) := rfl
theorem conv_ (s e m : Nat) (hs : s < 2) (he : e < 32) (hm : m < 1024) (hu : usual e m = true) : floatToFloatBits .f32 (h32 s e m) .f64 = some (v64 s e m) := by
  have hs' : s = 0 ∨ s = 1 := by omega
  by_cases c0 : e = 0
  · subst c0
    obtain rfl : m = 0 := by simpa [usual] using hu
    rcases hs' with rfl | rfl <;> decide +kernel
  · by_cases c1 : e = 31
    · subst c1
      obtain rfl : m = 0 := by simpa [usual] using hu
      rcases hs' with rfl | rfl <;> decide +kernel
    · have hw : h32 s e m = 2147483648 * s + (8388608 * (e + 112) + 8192 * m) := by unfold h32 r32; rw [if_neg c0, if_neg c1]; omega
      have hv : v64 s e m = dw s (e + 1008) (4398046511104 * m) := by unfold v64 r64; rw [if_neg c0, if_neg c1]
      have hr := read_sw s (e + 112) (8192 * m) hs (by omega) (by omega) (by omega)
      have hn : double.nearest (decide (s = 1)) (8388608 + 8192 * m) (-149 + ((e + 112 - 1 : Nat) : Int)) = dw s (e + 1008) (4398046511104 * m) := by
        rw [near_s _ e m (by omega) (by omega) hm]
        rcases hs' with rfl | rfl <;> simp [dw]
      have hd := read_dw s (e + 1008) (4398046511104 * m) hs (by omega) (by omega) (by omega)
      rw [f2f, hw, hv, hr]
      have hwr : double.write (.number (decide (s = 1)) (8388608 + 8192 * m) (-149 + ((e + 112 - 1 : Nat) : Int))) = dw s (e + 1008) (4398046511104 * m) := hn
      simp only [hwr, hd]
      rw [if_neg (by simp [Datum.isInfinity])]
theorem order_refl (s e m : Nat) (hs : s < 2) (he : e < 32) (hm : m < 1024) (hu : usual e m = true) : double.order (v64 s e m) (v64 s e m) = some .eq := by
  have hs' : s = 0 ∨ s = 1 := by omega
  by_cases c0 : e = 0
  · subst c0
    obtain rfl : m = 0 := by simpa [usual] using hu
    rcases hs' with rfl | rfl <;> decide +kernel
  · by_cases c1 : e = 31
    · subst c1
      obtain rfl : m = 0 := by simpa [usual] using hu
      rcases hs' with rfl | rfl <;> decide +kernel
    · have hv : v64 s e m = dw s (e + 1008) (4398046511104 * m) := by unfold v64 r64; rw [if_neg c0, if_neg c1]
      unfold Format.order
      rw [hv, read_dw s (e + 1008) (4398046511104 * m) hs (by omega) (by omega) (by omega)]
      show some (compare _ _) = _
      congr 1
      exact Int.compare_eq_eq.mpr rfl
end Go.Proofs.Ytmgpmmmoegjlbaa.V
