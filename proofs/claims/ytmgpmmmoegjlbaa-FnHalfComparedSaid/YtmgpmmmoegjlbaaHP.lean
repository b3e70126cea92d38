/- Words of floats of 64 bits: products by 1 and -1, sums, orders: plain facts. -/
import Derived.Test.YtmgpmmmoegjlbaaHB
namespace Go.Proofs.Ytmgpmmmoegjlbaa.V
open Ieee
set_option linter.unusedVariables false

theorem log2_of {n k : Nat} (h1 : 2 ^ k ≤ n) (h2 : n < 2 ^ (k + 1)) : n.log2 = k :=
  (Nat.log2_eq_iff (by have := Nat.two_pow_pos k; omega)).mpr ⟨h1, h2⟩
/-- A word that is a number's, normal. -/
def dw (s E F : Nat) : Nat := 9223372036854775808 * s + (4503599627370496 * E + F)
theorem sgn_one (s : Nat) (hs : s < 2) : (s % 2 == 1) = decide (s = 1) := by
  have : s = 0 ∨ s = 1 := by omega
  rcases this with rfl | rfl <;> rfl
theorem read_dw (s E F : Nat) (hs : s < 2) (h1 : 1 ≤ E) (h2 : E ≤ 2046) (hF : F < 4503599627370496) : double.read (dw s E F) = .number (decide (s = 1)) (4503599627370496 + F) (-1074 + ((E - 1 : Nat) : Int)) := by
  have e1 : double.signWeight = 9223372036854775808 := rfl
  have e2 : double.binade = 4503599627370496 := rfl
  have e3 : double.infRung = 9218868437227405312 := rfl
  have e4 : double.leastPlace = -1074 := rfl
  have d1 : dw s E F / 9223372036854775808 = s := by unfold dw; omega
  have d2 : dw s E F % 9223372036854775808 = 4503599627370496 * E + F := by unfold dw; omega
  have d3 : (4503599627370496 * E + F) % 4503599627370496 = F := by omega
  have d4 : (4503599627370496 * E + F) / 4503599627370496 = E := by omega
  unfold Format.read
  simp only [e1, e2, e3, e4, d1, d2, d3, d4]
  rw [if_neg (by omega), if_pos (by omega), sgn_one s hs]
theorem read_one : double.read 4607182418800017408 = .number false 4503599627370496 (-52) := rfl
theorem read_mone : double.read 13830554455654793216 = .number true 4503599627370496 (-52) := rfl
theorem word_d (t : Bool) (r : Nat) : double.word t r = (if t then 9223372036854775808 else 0) + r := by
  unfold Format.word
  cases t
  · simp
  · rfl
/-- A normal number, its last 52 digits nought: written. -/
theorem near_d (t : Bool) (E F : Nat) (h1 : 1 ≤ E) (h2 : E ≤ 2046) (hF : F < 4503599627370496) :
    double.nearest t (4503599627370496 * (4503599627370496 + F)) (-1074 + ((E - 1 : Nat) : Int) - 52) = (if t then 9223372036854775808 else 0) + (4503599627370496 * E + F) := by
  have e2 : double.binade = 4503599627370496 := rfl
  have e3 : double.infRung = 9218868437227405312 := rfl
  have e4 : double.leastPlace = -1074 := rfl
  have e5 : (double.fractionBits : Int) = 52 := rfl
  have hl : (4503599627370496 * (4503599627370496 + F)).log2 = 104 := log2_of (by omega) (by omega)
  unfold Format.nearest
  rw [if_neg (by omega)]
  simp only [hl, e2, e3, e4, e5]
  have k1 : max (-1074 + ((E - 1 : Nat) : Int) - 52 + ((104 : Nat) : Int) - 52) (-1074) = -1074 + ((E - 1 : Nat) : Int) := by omega
  rw [k1]
  have k2 : (-1074 + ((E - 1 : Nat) : Int) - 52 - (-1074 + ((E - 1 : Nat) : Int))).toNat = 0 := by omega
  have k3 : (-1074 + ((E - 1 : Nat) : Int) - (-1074 + ((E - 1 : Nat) : Int) - 52)).toNat = 52 := by omega
  have k4 : (-1074 + ((E - 1 : Nat) : Int) - -1074).toNat = E - 1 := by omega
  rw [k2, k3, k4]
  have hc : Toward.even.cut t ((4503599627370496 * (4503599627370496 + F)) <<< 0) 52 = 4503599627370496 + F := by
    rw [Nat.shiftLeft_zero]
    unfold Toward.cut
    have g : (1 : Nat) <<< min 52 ((4503599627370496 * (4503599627370496 + F)).log2 + 2) = 4503599627370496 := by
      rw [hl]; rfl
    simp only [g]
    have r1 : 4503599627370496 * (4503599627370496 + F) / 4503599627370496 = 4503599627370496 + F := by omega
    have r2 : 4503599627370496 * (4503599627370496 + F) % 4503599627370496 = 0 := by omega
    rw [r1, r2]
    rfl
  rw [hc, word_d]
  congr 1
  rw [Nat.min_eq_left (by omega)]
  omega
theorem mul_one_ (s E F : Nat) (h1 : 1 ≤ E) (h2 : E ≤ 2046) (hF : F < 4503599627370496) : double.mul 4607182418800017408 (dw 0 E F) = some (dw 0 E F) := by
  unfold Format.mul
  rw [read_one, read_dw 0 E F (by omega) h1 h2 hF]
  show some (double.nearest _ _ _) = _
  rw [show ((-52 : Int) + (-1074 + ((E - 1 : Nat) : Int))) = -1074 + ((E - 1 : Nat) : Int) - 52 by omega]
  have := near_d false E F h1 h2 hF
  rw [show (false ^^ decide ((0 : Nat) = 1)) = false from rfl, this]
  simp [dw]
theorem mul_mone (E F : Nat) (h1 : 1 ≤ E) (h2 : E ≤ 2046) (hF : F < 4503599627370496) : double.mul 13830554455654793216 (dw 0 E F) = some (dw 1 E F) := by
  unfold Format.mul
  rw [read_mone, read_dw 0 E F (by omega) h1 h2 hF]
  show some (double.nearest _ _ _) = _
  rw [show ((-52 : Int) + (-1074 + ((E - 1 : Nat) : Int))) = -1074 + ((E - 1 : Nat) : Int) - 52 by omega]
  have := near_d true E F h1 h2 hF
  rw [show (true ^^ decide ((0 : Nat) = 1)) = true from rfl, this]
  simp [dw]
/-- 1024 + m, as a float of 64 bits. -/
def lm (m : Nat) : Nat := dw 0 1033 (4398046511104 * m)
theorem add_chk : ((List.range 1024).all fun m => double.add 4652218415073722368 (FloatKind.f64.nearest (m : Int)) == some (lm m)) = true := by decide +kernel
theorem add_lm (m : Nat) (hm : m < 1024) : double.add 4652218415073722368 (FloatKind.f64.nearest (m : Int)) = some (lm m) := by
  have := List.all_eq_true.mp add_chk m (by simpa using hm)
  simpa using this
theorem order_pos (E F : Nat) (h1 : 1 ≤ E) (h2 : E ≤ 2046) (hF : F < 4503599627370496) : double.order (dw 0 E F) 0 = some .gt := by
  unfold Format.order
  rw [read_dw 0 E F (by omega) h1 h2 hF, show double.read 0 = .number false 0 (-1074) from rfl]
  show some (compare _ _) = _
  congr 1
  have k : min (-1074 + ((E - 1 : Nat) : Int)) (-1074) = -1074 := by omega
  simp only [k]
  show compare (signed false _ _) (signed false 0 _) = _
  unfold signed
  simp only [Bool.false_eq_true, if_false, Nat.zero_shiftLeft]
  rw [Int.compare_eq_gt]
  have : 0 < (4503599627370496 + F) <<< (-1074 + ((E - 1 : Nat) : Int) - -1074).toNat := by
    rw [Nat.shiftLeft_eq]; exact Nat.mul_pos (by omega) (Nat.two_pow_pos _)
  omega
end Go.Proofs.Ytmgpmmmoegjlbaa.V
