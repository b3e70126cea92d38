/- Floats of halves: words of floats, what math's functions about bits give. -/
import Derived.Test.YtmgpmmmoegjlbaaProg
import Derived.WalkKit
import Derived.WalkLawsBesides
import Derived.Below
import Derived.Laws.FloatArith
import Derived.Laws.Externs
import Derived.Laws.BitsAllLaws
import Derived.Lib.Hide
import Derived.Outline
import Derived.Deep.QuietTactic
import Derived.BigQuiet
namespace Go.Proofs.Ytmgpmmmoegjlbaa.V
open Go.RowKit
set_option linter.unusedVariables false
theorem f32from (n : Int) (w : World) : (callFunc 25 #[.int .u32 n]).run Try.prog w = .ok (.value (.float .f32 n.toNat)) w := by
  rw [run_callFunc_extern Try.func25 (by kernel_rfl) (by kernel_rfl) (by kernel_rfl) (e := Extern.MathFloatBits.float32frombits) (by kernel_rfl)]
  rfl
theorem f64from (n : Int) (w : World) : (callFunc 28 #[.int .u64 n]).run Try.prog w = .ok (.value (.float .f64 n.toNat)) w := by
  rw [run_callFunc_extern Try.func28 (by kernel_rfl) (by kernel_rfl) (by kernel_rfl) (e := Extern.MathFloatBits.float64frombits) (by kernel_rfl)]
  rfl
theorem f32bits (n : Nat) (w : World) : (callFunc 29 #[.float .f32 n]).run Try.prog w = .ok (.value (.int .u32 n)) w := by
  rw [run_callFunc_extern Try.func29 (by kernel_rfl) (by kernel_rfl) (by kernel_rfl) (e := Extern.MathFloatBits.float32bits) (by kernel_rfl)]
  rfl
theorem f64bits (n : Nat) (w : World) : (callFunc 33 #[.float .f64 n]).run Try.prog w = .ok (.value (.int .u64 n)) w := by
  rw [run_callFunc_extern Try.func33 (by kernel_rfl) (by kernel_rfl) (by kernel_rfl) (e := Extern.MathFloatBits.float64bits) (by kernel_rfl)]
  rfl
/-- A half's bits. -/
def hb (s e m : Nat) : Nat := 32768 * s + 1024 * e + m
theorem hb_sign (s e m : Nat) (he : e < 32) (hm : m < 1024) : hb s e m / 32768 = s := by unfold hb; omega
theorem hb_exp (s e m : Nat) (he : e < 32) (hm : m < 1024) : hb s e m / 1024 = 32 * s + e := by unfold hb; omega
theorem and_low {x : Nat} (k : Nat) : x &&& (2 ^ k - 1) = x % 2 ^ k := Nat.and_two_pow_sub_one_eq_mod x k
theorem b_sign (s e m : Nat) (hs : s < 2) (he : e < 32) (hm : m < 1024) : bits .and .u16 ((hb s e m : Int) / 32768) 1 = s := by
  rw [show ((hb s e m : Int) / 32768) = ((hb s e m / 32768 : Nat) : Int) by omega, hb_sign s e m he hm]
  rw [show (1 : Int) = ((1 : Nat) : Int) from rfl, u16_and_nat _ _ (by omega) (by omega), show (1 : Nat) = 2 ^ 1 - 1 from rfl, and_low]
  omega
theorem b_exp (s e m : Nat) (hs : s < 2) (he : e < 32) (hm : m < 1024) : bits .and .u16 ((hb s e m : Int) / 1024) 31 = e := by
  rw [show ((hb s e m : Int) / 1024) = ((hb s e m / 1024 : Nat) : Int) by omega, hb_exp s e m he hm]
  rw [show (31 : Int) = ((31 : Nat) : Int) from rfl, u16_and_nat _ _ (by omega) (by omega), show (31 : Nat) = 2 ^ 5 - 1 from rfl, and_low]
  omega
theorem b_frac (s e m : Nat) (hs : s < 2) (he : e < 32) (hm : m < 1024) : bits .and .u16 (hb s e m : Int) 1023 = m := by
  rw [show (1023 : Int) = ((1023 : Nat) : Int) from rfl, u16_and_nat _ _ (by unfold hb; omega) (by omega), show (1023 : Nat) = 2 ^ 10 - 1 from rfl, and_low]
  unfold hb; omega
theorem or_add (a b i : Nat) (h : b < 2 ^ i) : (2 ^ i * a) ||| b = 2 ^ i * a + b := (Nat.two_pow_add_eq_or_of_lt h a).symm
theorem or_u32 (a b i : Nat) (ha : 2 ^ i * a < 4294967296) (hb : b < 2 ^ i) (hi : b < 4294967296) : bits .or .u32 ((2 ^ i * a : Nat) : Int) (b : Int) = ((2 ^ i * a + b : Nat) : Int) := by
  rw [u32_or_nat _ _ ha hi, or_add a b i hb]
/-- The float of 32 bits that a half is, by its fields. -/
def r32 (e : Nat) : Nat := if e = 0 then 0 else if e = 31 then 255 else e + 112
def h32 (s e m : Nat) : Nat := 2147483648 * s + 8388608 * r32 e + 8192 * m
theorem r32_lt (e : Nat) (he : e < 32) : r32 e < 256 := by
  unfold r32
  split
  · omega
  · split <;> omega
theorem or1 (s r : Nat) (hs : s < 2) (hr : r < 256) : bits .or .u32 (((2147483648 * s : Nat)) : Int) (((8388608 * r : Nat)) : Int) = ((2147483648 * s + 8388608 * r : Nat) : Int) := by
  have := or_u32 s (8388608 * r) 31 (by omega) (by omega) (by omega)
  exact this
theorem or2 (s r m : Nat) (hs : s < 2) (hr : r < 256) (hm : m < 1024) : bits .or .u32 (((2147483648 * s + 8388608 * r : Nat)) : Int) (((8192 * m : Nat)) : Int) = ((2147483648 * s + 8388608 * r + 8192 * m : Nat) : Int) := by
  have := or_u32 (256 * s + r) (8192 * m) 23 (by omega) (by omega) (by omega)
  rw [show 2 ^ 23 * (256 * s + r) = 2147483648 * s + 8388608 * r by omega] at this
  exact this
end Go.Proofs.Ytmgpmmmoegjlbaa.V
