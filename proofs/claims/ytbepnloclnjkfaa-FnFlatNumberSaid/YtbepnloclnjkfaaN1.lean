/- What flatbuffers' Get* and Write* do at a slice as long as the number. -/
import Derived.Test.YtbepnloclnjkfaaProg
import Derived.WalkKit
import Derived.WalkLawsBesides
import Derived.Below
import Derived.Laws.Externs
import Derived.Laws.BitsAllLaws
import Derived.Lib.Hide
import Derived.Outline
import Derived.Deep.QuietTactic
import Derived.BigQuiet
import Derived.Defers
import Derived.Recover
namespace Go.Proofs.Ytbepnloclnjkfaa.V
open Go.RowKit
set_option linter.unusedVariables false
set_option linter.unusedSimpArgs false
theorem ofInt_wrap (k : IntKind) (a : Int) : BitVec.ofInt k.bits (k.wrap a) = BitVec.ofInt k.bits a := by
  apply BitVec.eq_of_toNat_eq
  rw [BitVec.toNat_ofInt, BitVec.toNat_ofInt]
  cases k <;> simp only [IntKind.wrap, IntKind.bits, IntKind.signed] <;> (try split) <;> omega
/-- Or of two numbers that share no bit, wrapped. -/
theorem or_k (k : IntKind) (i : Nat) (A y : Nat) (hA : A < 2 ^ i) (hAB : A + 2 ^ i * y < 2 ^ k.bits) : bits .or k (k.wrap (A : Int)) (k.wrap ((2 ^ i * y : Nat) : Int)) = k.wrap ((A + 2 ^ i * y : Nat) : Int) := by
  have e : bits .or k (k.wrap (A : Int)) (k.wrap ((2 ^ i * y : Nat) : Int)) = k.wrap (((BitVec.ofInt k.bits (k.wrap (A : Int)) ||| BitVec.ofInt k.bits (k.wrap ((2 ^ i * y : Nat) : Int))).toNat : Nat) : Int) := rfl
  rw [e, ofInt_wrap, ofInt_wrap, BitVec.ofInt_natCast, BitVec.ofInt_natCast, BitVec.toNat_or, BitVec.toNat_ofNat, BitVec.toNat_ofNat, Nat.mod_eq_of_lt (by omega), Nat.mod_eq_of_lt (by omega), Nat.or_comm, ← Nat.two_pow_add_eq_or_of_lt hA, Nat.add_comm]
theorem or_step (k : IntKind) (i : Nat) (A X y B : Int) (hA0 : 0 ≤ A) (hA : A < 2 ^ i) (hy : 0 ≤ y) (hX : X = k.wrap (y * 2 ^ i)) (hB : B = A + y * 2 ^ i) (hAB : B < 2 ^ k.bits) : bits .or k (k.wrap A) X = k.wrap B := by
  obtain ⟨a, rfl⟩ := Int.eq_ofNat_of_zero_le hA0
  obtain ⟨z, rfl⟩ := Int.eq_ofNat_of_zero_le hy
  have h1 : ((z : Int) * 2 ^ i) = ((2 ^ i * z : Nat) : Int) := by rw [Int.natCast_mul, Int.natCast_pow, Int.mul_comm]; rfl
  subst hX; subst hB
  rw [h1] at hAB ⊢
  have h2 : ((a : Int) + ((2 ^ i * z : Nat) : Int)) = ((a + 2 ^ i * z : Nat) : Int) := by omega
  rw [h2] at hAB ⊢
  exact or_k k i a z (by exact_mod_cast hA) (by exact_mod_cast hAB)
theorem ret_k {k : IntKind} {a b : Int} (h : a = b) : Ending.returned (.int k a) = .returned (.int k b) := by rw [h]
set_option maxHeartbeats 1000000 in
theorem get_u8 (ad : Addr) (c : Nat) (x0 : Int) (w : World) (h0 : w.cell? ad = some (.int .u8 x0)) (b0 : 0 ≤ x0) (c0 : x0 < 256) :
    Calls Try.prog 27 #[.slice (some ad) 1 c] w fun e w' => e = .returned (.int .u8 (IntKind.u8.wrap (x0))) ∧ w = w' := by
  obtain ⟨V, hV⟩ : ∃ V, V = IntKind.u8.wrap (x0) := ⟨_, rfl⟩
  rw [← hV]
  have HV := Lib.hid hV
  clear hV
  go_enter Try.func27, Try.ntmps27
  go_wp2
  go_ret
  refine ⟨ret_k ?_, rfl⟩
  have k := HV.out
  clear HV h0
  subst k
  first | rfl | (simp only [IntKind.wrap, IntKind.bits, IntKind.signed]; simp; omega)
set_option maxHeartbeats 1000000 in
theorem get_u16 (ad : Addr) (c : Nat) (x0 x1 : Int) (w : World) (h0 : w.cell? ad = some (.int .u8 x0)) (b0 : 0 ≤ x0) (c0 : x0 < 256) (h1 : w.cell? ⟨ad.block, ad.off + 1, none⟩ = some (.int .u8 x1)) (b1 : 0 ≤ x1) (c1 : x1 < 256) :
    Calls Try.prog 29 #[.slice (some ad) 2 c] w fun e w' => e = .returned (.int .u16 (IntKind.u16.wrap (x0 + x1 * 256))) ∧ w = w' := by
  obtain ⟨V, hV⟩ : ∃ V, V = IntKind.u16.wrap (x0 + x1 * 256) := ⟨_, rfl⟩
  rw [← hV]
  have HV := Lib.hid hV
  clear hV
  go_enter Try.func29, Try.ntmps29
  go_wp2
  go_ret
  refine ⟨ret_k ?_, rfl⟩
  rw [HV.out]
  clear HV h0 h1
  have w0 : (0 : Int) = IntKind.u16.wrap 0 := by decide
  have g0 := or_step .u16 0 (0) x0 x0 (x0) (by omega) (by omega) b0 (by first | rfl | (simp only [IntKind.wrap, IntKind.bits, IntKind.signed, wrap64, wrap32]; simp; try omega) | (simp only [IntKind.wrap, IntKind.bits, IntKind.signed, wrap64, wrap32]; (repeat' split) <;> omega)) (by omega) (by show _ < (2 : Int) ^ 16; omega)
  have g1 := or_step .u16 8 (x0) (x1 * 256) x1 (x0 + x1 * 256) (by omega) (by omega) b1 (by first | rfl | (simp only [IntKind.wrap, IntKind.bits, IntKind.signed, wrap64, wrap32]; simp; try omega) | (simp only [IntKind.wrap, IntKind.bits, IntKind.signed, wrap64, wrap32]; (repeat' split) <;> omega)) (by omega) (by show _ < (2 : Int) ^ 16; omega)
  rw [← w0] at g0
  rw [g0, g1]
set_option maxHeartbeats 1000000 in
theorem get_u32 (ad : Addr) (c : Nat) (x0 x1 x2 x3 : Int) (w : World) (h0 : w.cell? ad = some (.int .u8 x0)) (b0 : 0 ≤ x0) (c0 : x0 < 256) (h1 : w.cell? ⟨ad.block, ad.off + 1, none⟩ = some (.int .u8 x1)) (b1 : 0 ≤ x1) (c1 : x1 < 256) (h2 : w.cell? ⟨ad.block, ad.off + 2, none⟩ = some (.int .u8 x2)) (b2 : 0 ≤ x2) (c2 : x2 < 256) (h3 : w.cell? ⟨ad.block, ad.off + 3, none⟩ = some (.int .u8 x3)) (b3 : 0 ≤ x3) (c3 : x3 < 256) :
    Calls Try.prog 31 #[.slice (some ad) 4 c] w fun e w' => e = .returned (.int .u32 (IntKind.u32.wrap (x0 + x1 * 256 + x2 * 65536 + x3 * 16777216))) ∧ w = w' := by
  obtain ⟨V, hV⟩ : ∃ V, V = IntKind.u32.wrap (x0 + x1 * 256 + x2 * 65536 + x3 * 16777216) := ⟨_, rfl⟩
  rw [← hV]
  have HV := Lib.hid hV
  clear hV
  go_enter Try.func31, Try.ntmps31
  go_wp2
  go_ret
  refine ⟨ret_k ?_, rfl⟩
  rw [HV.out]
  clear HV h0 h1 h2 h3
  have w0 : (0 : Int) = IntKind.u32.wrap 0 := by decide
  have g0 := or_step .u32 0 (0) x0 x0 (x0) (by omega) (by omega) b0 (by first | rfl | (simp only [IntKind.wrap, IntKind.bits, IntKind.signed, wrap64, wrap32]; simp; try omega) | (simp only [IntKind.wrap, IntKind.bits, IntKind.signed, wrap64, wrap32]; (repeat' split) <;> omega)) (by omega) (by show _ < (2 : Int) ^ 32; omega)
  have g1 := or_step .u32 8 (x0) (x1 * 256) x1 (x0 + x1 * 256) (by omega) (by omega) b1 (by first | rfl | (simp only [IntKind.wrap, IntKind.bits, IntKind.signed, wrap64, wrap32]; simp; try omega) | (simp only [IntKind.wrap, IntKind.bits, IntKind.signed, wrap64, wrap32]; (repeat' split) <;> omega)) (by omega) (by show _ < (2 : Int) ^ 32; omega)
  have g2 := or_step .u32 16 (x0 + x1 * 256) (x2 * 65536) x2 (x0 + x1 * 256 + x2 * 65536) (by omega) (by omega) b2 (by first | rfl | (simp only [IntKind.wrap, IntKind.bits, IntKind.signed, wrap64, wrap32]; simp; try omega) | (simp only [IntKind.wrap, IntKind.bits, IntKind.signed, wrap64, wrap32]; (repeat' split) <;> omega)) (by omega) (by show _ < (2 : Int) ^ 32; omega)
  have g3 := or_step .u32 24 (x0 + x1 * 256 + x2 * 65536) (x3 * 16777216) x3 (x0 + x1 * 256 + x2 * 65536 + x3 * 16777216) (by omega) (by omega) b3 (by first | rfl | (simp only [IntKind.wrap, IntKind.bits, IntKind.signed, wrap64, wrap32]; simp; try omega) | (simp only [IntKind.wrap, IntKind.bits, IntKind.signed, wrap64, wrap32]; (repeat' split) <;> omega)) (by omega) (by show _ < (2 : Int) ^ 32; omega)
  rw [← w0] at g0
  rw [g0, g1, g2, g3]
set_option maxHeartbeats 1000000 in
theorem get_u64 (ad : Addr) (c : Nat) (x0 x1 x2 x3 x4 x5 x6 x7 : Int) (w : World) (h0 : w.cell? ad = some (.int .u8 x0)) (b0 : 0 ≤ x0) (c0 : x0 < 256) (h1 : w.cell? ⟨ad.block, ad.off + 1, none⟩ = some (.int .u8 x1)) (b1 : 0 ≤ x1) (c1 : x1 < 256) (h2 : w.cell? ⟨ad.block, ad.off + 2, none⟩ = some (.int .u8 x2)) (b2 : 0 ≤ x2) (c2 : x2 < 256) (h3 : w.cell? ⟨ad.block, ad.off + 3, none⟩ = some (.int .u8 x3)) (b3 : 0 ≤ x3) (c3 : x3 < 256) (h4 : w.cell? ⟨ad.block, ad.off + 4, none⟩ = some (.int .u8 x4)) (b4 : 0 ≤ x4) (c4 : x4 < 256) (h5 : w.cell? ⟨ad.block, ad.off + 5, none⟩ = some (.int .u8 x5)) (b5 : 0 ≤ x5) (c5 : x5 < 256) (h6 : w.cell? ⟨ad.block, ad.off + 6, none⟩ = some (.int .u8 x6)) (b6 : 0 ≤ x6) (c6 : x6 < 256) (h7 : w.cell? ⟨ad.block, ad.off + 7, none⟩ = some (.int .u8 x7)) (b7 : 0 ≤ x7) (c7 : x7 < 256) :
    Calls Try.prog 33 #[.slice (some ad) 8 c] w fun e w' => e = .returned (.int .u64 (IntKind.u64.wrap (x0 + x1 * 256 + x2 * 65536 + x3 * 16777216 + x4 * 4294967296 + x5 * 1099511627776 + x6 * 281474976710656 + x7 * 72057594037927936))) ∧ w = w' := by
  obtain ⟨V, hV⟩ : ∃ V, V = IntKind.u64.wrap (x0 + x1 * 256 + x2 * 65536 + x3 * 16777216 + x4 * 4294967296 + x5 * 1099511627776 + x6 * 281474976710656 + x7 * 72057594037927936) := ⟨_, rfl⟩
  rw [← hV]
  have HV := Lib.hid hV
  clear hV
  go_enter Try.func33, Try.ntmps33
  go_wp2
  go_ret
  refine ⟨ret_k ?_, rfl⟩
  rw [HV.out]
  clear HV h0 h1 h2 h3 h4 h5 h6 h7
  have w0 : (0 : Int) = IntKind.u64.wrap 0 := by decide
  have g0 := or_step .u64 0 (0) x0 x0 (x0) (by omega) (by omega) b0 (by first | rfl | (simp only [IntKind.wrap, IntKind.bits, IntKind.signed, wrap64, wrap32]; simp; try omega) | (simp only [IntKind.wrap, IntKind.bits, IntKind.signed, wrap64, wrap32]; (repeat' split) <;> omega)) (by omega) (by show _ < (2 : Int) ^ 64; omega)
  have g1 := or_step .u64 8 (x0) (x1 * 256) x1 (x0 + x1 * 256) (by omega) (by omega) b1 (by first | rfl | (simp only [IntKind.wrap, IntKind.bits, IntKind.signed, wrap64, wrap32]; simp; try omega) | (simp only [IntKind.wrap, IntKind.bits, IntKind.signed, wrap64, wrap32]; (repeat' split) <;> omega)) (by omega) (by show _ < (2 : Int) ^ 64; omega)
  have g2 := or_step .u64 16 (x0 + x1 * 256) (x2 * 65536) x2 (x0 + x1 * 256 + x2 * 65536) (by omega) (by omega) b2 (by first | rfl | (simp only [IntKind.wrap, IntKind.bits, IntKind.signed, wrap64, wrap32]; simp; try omega) | (simp only [IntKind.wrap, IntKind.bits, IntKind.signed, wrap64, wrap32]; (repeat' split) <;> omega)) (by omega) (by show _ < (2 : Int) ^ 64; omega)
  have g3 := or_step .u64 24 (x0 + x1 * 256 + x2 * 65536) (x3 * 16777216) x3 (x0 + x1 * 256 + x2 * 65536 + x3 * 16777216) (by omega) (by omega) b3 (by first | rfl | (simp only [IntKind.wrap, IntKind.bits, IntKind.signed, wrap64, wrap32]; simp; try omega) | (simp only [IntKind.wrap, IntKind.bits, IntKind.signed, wrap64, wrap32]; (repeat' split) <;> omega)) (by omega) (by show _ < (2 : Int) ^ 64; omega)
  have g4 := or_step .u64 32 (x0 + x1 * 256 + x2 * 65536 + x3 * 16777216) (x4 * 4294967296) x4 (x0 + x1 * 256 + x2 * 65536 + x3 * 16777216 + x4 * 4294967296) (by omega) (by omega) b4 (by first | rfl | (simp only [IntKind.wrap, IntKind.bits, IntKind.signed, wrap64, wrap32]; simp; try omega) | (simp only [IntKind.wrap, IntKind.bits, IntKind.signed, wrap64, wrap32]; (repeat' split) <;> omega)) (by omega) (by show _ < (2 : Int) ^ 64; omega)
  have g5 := or_step .u64 40 (x0 + x1 * 256 + x2 * 65536 + x3 * 16777216 + x4 * 4294967296) (x5 * 1099511627776) x5 (x0 + x1 * 256 + x2 * 65536 + x3 * 16777216 + x4 * 4294967296 + x5 * 1099511627776) (by omega) (by omega) b5 (by first | rfl | (simp only [IntKind.wrap, IntKind.bits, IntKind.signed, wrap64, wrap32]; simp; try omega) | (simp only [IntKind.wrap, IntKind.bits, IntKind.signed, wrap64, wrap32]; (repeat' split) <;> omega)) (by omega) (by show _ < (2 : Int) ^ 64; omega)
  have g6 := or_step .u64 48 (x0 + x1 * 256 + x2 * 65536 + x3 * 16777216 + x4 * 4294967296 + x5 * 1099511627776) (x6 * 281474976710656) x6 (x0 + x1 * 256 + x2 * 65536 + x3 * 16777216 + x4 * 4294967296 + x5 * 1099511627776 + x6 * 281474976710656) (by omega) (by omega) b6 (by first | rfl | (simp only [IntKind.wrap, IntKind.bits, IntKind.signed, wrap64, wrap32]; simp; try omega) | (simp only [IntKind.wrap, IntKind.bits, IntKind.signed, wrap64, wrap32]; (repeat' split) <;> omega)) (by omega) (by show _ < (2 : Int) ^ 64; omega)
  have g7 := or_step .u64 56 (x0 + x1 * 256 + x2 * 65536 + x3 * 16777216 + x4 * 4294967296 + x5 * 1099511627776 + x6 * 281474976710656) (x7 * 72057594037927936) x7 (x0 + x1 * 256 + x2 * 65536 + x3 * 16777216 + x4 * 4294967296 + x5 * 1099511627776 + x6 * 281474976710656 + x7 * 72057594037927936) (by omega) (by omega) b7 (by first | rfl | (simp only [IntKind.wrap, IntKind.bits, IntKind.signed, wrap64, wrap32]; simp; try omega) | (simp only [IntKind.wrap, IntKind.bits, IntKind.signed, wrap64, wrap32]; (repeat' split) <;> omega)) (by omega) (by show _ < (2 : Int) ^ 64; omega)
  rw [← w0] at g0
  rw [g0, g1, g2, g3, g4, g5, g6, g7]
set_option maxHeartbeats 1000000 in
theorem get_i8 (ad : Addr) (c : Nat) (x0 : Int) (w : World) (h0 : w.cell? ad = some (.int .u8 x0)) (b0 : 0 ≤ x0) (c0 : x0 < 256) :
    Calls Try.prog 45 #[.slice (some ad) 1 c] w fun e w' => e = .returned (.int .i8 (IntKind.i8.wrap (x0))) ∧ w = w' := by
  obtain ⟨V, hV⟩ : ∃ V, V = IntKind.i8.wrap (x0) := ⟨_, rfl⟩
  rw [← hV]
  have HV := Lib.hid hV
  clear hV
  go_enter Try.func45, Try.ntmps45
  go_wp2
  go_ret
  refine ⟨ret_k ?_, rfl⟩
  have k := HV.out
  clear HV h0
  subst k
  first | rfl | (simp only [IntKind.wrap, IntKind.bits, IntKind.signed]; simp; omega)
set_option maxHeartbeats 1000000 in
theorem get_i16 (ad : Addr) (c : Nat) (x0 x1 : Int) (w : World) (h0 : w.cell? ad = some (.int .u8 x0)) (b0 : 0 ≤ x0) (c0 : x0 < 256) (h1 : w.cell? ⟨ad.block, ad.off + 1, none⟩ = some (.int .u8 x1)) (b1 : 0 ≤ x1) (c1 : x1 < 256) :
    Calls Try.prog 47 #[.slice (some ad) 2 c] w fun e w' => e = .returned (.int .i16 (IntKind.i16.wrap (x0 + x1 * 256))) ∧ w = w' := by
  obtain ⟨V, hV⟩ : ∃ V, V = IntKind.i16.wrap (x0 + x1 * 256) := ⟨_, rfl⟩
  rw [← hV]
  have HV := Lib.hid hV
  clear hV
  go_enter Try.func47, Try.ntmps47
  go_wp2
  go_ret
  refine ⟨ret_k ?_, rfl⟩
  rw [HV.out]
  clear HV h0 h1
  have w0 : (0 : Int) = IntKind.i16.wrap 0 := by decide
  have g0 := or_step .i16 0 (0) x0 x0 (x0) (by omega) (by omega) b0 (by first | rfl | (simp only [IntKind.wrap, IntKind.bits, IntKind.signed, wrap64, wrap32]; simp; try omega) | (simp only [IntKind.wrap, IntKind.bits, IntKind.signed, wrap64, wrap32]; (repeat' split) <;> omega)) (by omega) (by show _ < (2 : Int) ^ 16; omega)
  have g1 := or_step .i16 8 (x0) (IntKind.i16.wrap (x1 * 256)) x1 (x0 + x1 * 256) (by omega) (by omega) b1 (by first | rfl | (simp only [IntKind.wrap, IntKind.bits, IntKind.signed, wrap64, wrap32]; simp; try omega) | (simp only [IntKind.wrap, IntKind.bits, IntKind.signed, wrap64, wrap32]; (repeat' split) <;> omega)) (by omega) (by show _ < (2 : Int) ^ 16; omega)
  rw [← w0] at g0
  rw [g0, g1]
set_option maxHeartbeats 1000000 in
theorem get_i32 (ad : Addr) (c : Nat) (x0 x1 x2 x3 : Int) (w : World) (h0 : w.cell? ad = some (.int .u8 x0)) (b0 : 0 ≤ x0) (c0 : x0 < 256) (h1 : w.cell? ⟨ad.block, ad.off + 1, none⟩ = some (.int .u8 x1)) (b1 : 0 ≤ x1) (c1 : x1 < 256) (h2 : w.cell? ⟨ad.block, ad.off + 2, none⟩ = some (.int .u8 x2)) (b2 : 0 ≤ x2) (c2 : x2 < 256) (h3 : w.cell? ⟨ad.block, ad.off + 3, none⟩ = some (.int .u8 x3)) (b3 : 0 ≤ x3) (c3 : x3 < 256) :
    Calls Try.prog 49 #[.slice (some ad) 4 c] w fun e w' => e = .returned (.int .i32 (IntKind.i32.wrap (x0 + x1 * 256 + x2 * 65536 + x3 * 16777216))) ∧ w = w' := by
  obtain ⟨V, hV⟩ : ∃ V, V = IntKind.i32.wrap (x0 + x1 * 256 + x2 * 65536 + x3 * 16777216) := ⟨_, rfl⟩
  rw [← hV]
  have HV := Lib.hid hV
  clear hV
  go_enter Try.func49, Try.ntmps49
  go_wp2
  go_ret
  refine ⟨ret_k ?_, rfl⟩
  rw [HV.out]
  clear HV h0 h1 h2 h3
  have w0 : (0 : Int) = IntKind.i32.wrap 0 := by decide
  have g0 := or_step .i32 0 (0) x0 x0 (x0) (by omega) (by omega) b0 (by first | rfl | (simp only [IntKind.wrap, IntKind.bits, IntKind.signed, wrap64, wrap32]; simp; try omega) | (simp only [IntKind.wrap, IntKind.bits, IntKind.signed, wrap64, wrap32]; (repeat' split) <;> omega)) (by omega) (by show _ < (2 : Int) ^ 32; omega)
  have g1 := or_step .i32 8 (x0) (x1 * 256) x1 (x0 + x1 * 256) (by omega) (by omega) b1 (by first | rfl | (simp only [IntKind.wrap, IntKind.bits, IntKind.signed, wrap64, wrap32]; simp; try omega) | (simp only [IntKind.wrap, IntKind.bits, IntKind.signed, wrap64, wrap32]; (repeat' split) <;> omega)) (by omega) (by show _ < (2 : Int) ^ 32; omega)
  have g2 := or_step .i32 16 (x0 + x1 * 256) (x2 * 65536) x2 (x0 + x1 * 256 + x2 * 65536) (by omega) (by omega) b2 (by first | rfl | (simp only [IntKind.wrap, IntKind.bits, IntKind.signed, wrap64, wrap32]; simp; try omega) | (simp only [IntKind.wrap, IntKind.bits, IntKind.signed, wrap64, wrap32]; (repeat' split) <;> omega)) (by omega) (by show _ < (2 : Int) ^ 32; omega)
  have g3 := or_step .i32 24 (x0 + x1 * 256 + x2 * 65536) (wrap32 (x3 * 16777216)) x3 (x0 + x1 * 256 + x2 * 65536 + x3 * 16777216) (by omega) (by omega) b3 (by first | rfl | (simp only [IntKind.wrap, IntKind.bits, IntKind.signed, wrap64, wrap32]; simp; try omega) | (simp only [IntKind.wrap, IntKind.bits, IntKind.signed, wrap64, wrap32]; (repeat' split) <;> omega)) (by omega) (by show _ < (2 : Int) ^ 32; omega)
  have q0 : IntKind.i32.wrap x0 = x0 := by simp only [IntKind.wrap, IntKind.bits, IntKind.signed]; simp; try omega
  rw [q0] at g1
  rw [g1, g2, g3]
set_option maxHeartbeats 1000000 in
theorem get_i64 (ad : Addr) (c : Nat) (x0 x1 x2 x3 x4 x5 x6 x7 : Int) (w : World) (h0 : w.cell? ad = some (.int .u8 x0)) (b0 : 0 ≤ x0) (c0 : x0 < 256) (h1 : w.cell? ⟨ad.block, ad.off + 1, none⟩ = some (.int .u8 x1)) (b1 : 0 ≤ x1) (c1 : x1 < 256) (h2 : w.cell? ⟨ad.block, ad.off + 2, none⟩ = some (.int .u8 x2)) (b2 : 0 ≤ x2) (c2 : x2 < 256) (h3 : w.cell? ⟨ad.block, ad.off + 3, none⟩ = some (.int .u8 x3)) (b3 : 0 ≤ x3) (c3 : x3 < 256) (h4 : w.cell? ⟨ad.block, ad.off + 4, none⟩ = some (.int .u8 x4)) (b4 : 0 ≤ x4) (c4 : x4 < 256) (h5 : w.cell? ⟨ad.block, ad.off + 5, none⟩ = some (.int .u8 x5)) (b5 : 0 ≤ x5) (c5 : x5 < 256) (h6 : w.cell? ⟨ad.block, ad.off + 6, none⟩ = some (.int .u8 x6)) (b6 : 0 ≤ x6) (c6 : x6 < 256) (h7 : w.cell? ⟨ad.block, ad.off + 7, none⟩ = some (.int .u8 x7)) (b7 : 0 ≤ x7) (c7 : x7 < 256) :
    Calls Try.prog 51 #[.slice (some ad) 8 c] w fun e w' => e = .returned (.int .i64 (IntKind.i64.wrap (x0 + x1 * 256 + x2 * 65536 + x3 * 16777216 + x4 * 4294967296 + x5 * 1099511627776 + x6 * 281474976710656 + x7 * 72057594037927936))) ∧ w = w' := by
  obtain ⟨V, hV⟩ : ∃ V, V = IntKind.i64.wrap (x0 + x1 * 256 + x2 * 65536 + x3 * 16777216 + x4 * 4294967296 + x5 * 1099511627776 + x6 * 281474976710656 + x7 * 72057594037927936) := ⟨_, rfl⟩
  rw [← hV]
  have HV := Lib.hid hV
  clear hV
  go_enter Try.func51, Try.ntmps51
  go_wp2
  go_ret
  refine ⟨ret_k ?_, rfl⟩
  rw [HV.out]
  clear HV h0 h1 h2 h3 h4 h5 h6 h7
  have w0 : (0 : Int) = IntKind.i64.wrap 0 := by decide
  have g0 := or_step .i64 0 (0) x0 x0 (x0) (by omega) (by omega) b0 (by first | rfl | (simp only [IntKind.wrap, IntKind.bits, IntKind.signed, wrap64, wrap32]; simp; try omega) | (simp only [IntKind.wrap, IntKind.bits, IntKind.signed, wrap64, wrap32]; (repeat' split) <;> omega)) (by omega) (by show _ < (2 : Int) ^ 64; omega)
  have g1 := or_step .i64 8 (x0) (x1 * 256) x1 (x0 + x1 * 256) (by omega) (by omega) b1 (by first | rfl | (simp only [IntKind.wrap, IntKind.bits, IntKind.signed, wrap64, wrap32]; simp; try omega) | (simp only [IntKind.wrap, IntKind.bits, IntKind.signed, wrap64, wrap32]; (repeat' split) <;> omega)) (by omega) (by show _ < (2 : Int) ^ 64; omega)
  have g2 := or_step .i64 16 (x0 + x1 * 256) (x2 * 65536) x2 (x0 + x1 * 256 + x2 * 65536) (by omega) (by omega) b2 (by first | rfl | (simp only [IntKind.wrap, IntKind.bits, IntKind.signed, wrap64, wrap32]; simp; try omega) | (simp only [IntKind.wrap, IntKind.bits, IntKind.signed, wrap64, wrap32]; (repeat' split) <;> omega)) (by omega) (by show _ < (2 : Int) ^ 64; omega)
  have g3 := or_step .i64 24 (x0 + x1 * 256 + x2 * 65536) (x3 * 16777216) x3 (x0 + x1 * 256 + x2 * 65536 + x3 * 16777216) (by omega) (by omega) b3 (by first | rfl | (simp only [IntKind.wrap, IntKind.bits, IntKind.signed, wrap64, wrap32]; simp; try omega) | (simp only [IntKind.wrap, IntKind.bits, IntKind.signed, wrap64, wrap32]; (repeat' split) <;> omega)) (by omega) (by show _ < (2 : Int) ^ 64; omega)
  have g4 := or_step .i64 32 (x0 + x1 * 256 + x2 * 65536 + x3 * 16777216) (x4 * 4294967296) x4 (x0 + x1 * 256 + x2 * 65536 + x3 * 16777216 + x4 * 4294967296) (by omega) (by omega) b4 (by first | rfl | (simp only [IntKind.wrap, IntKind.bits, IntKind.signed, wrap64, wrap32]; simp; try omega) | (simp only [IntKind.wrap, IntKind.bits, IntKind.signed, wrap64, wrap32]; (repeat' split) <;> omega)) (by omega) (by show _ < (2 : Int) ^ 64; omega)
  have g5 := or_step .i64 40 (x0 + x1 * 256 + x2 * 65536 + x3 * 16777216 + x4 * 4294967296) (x5 * 1099511627776) x5 (x0 + x1 * 256 + x2 * 65536 + x3 * 16777216 + x4 * 4294967296 + x5 * 1099511627776) (by omega) (by omega) b5 (by first | rfl | (simp only [IntKind.wrap, IntKind.bits, IntKind.signed, wrap64, wrap32]; simp; try omega) | (simp only [IntKind.wrap, IntKind.bits, IntKind.signed, wrap64, wrap32]; (repeat' split) <;> omega)) (by omega) (by show _ < (2 : Int) ^ 64; omega)
  have g6 := or_step .i64 48 (x0 + x1 * 256 + x2 * 65536 + x3 * 16777216 + x4 * 4294967296 + x5 * 1099511627776) (x6 * 281474976710656) x6 (x0 + x1 * 256 + x2 * 65536 + x3 * 16777216 + x4 * 4294967296 + x5 * 1099511627776 + x6 * 281474976710656) (by omega) (by omega) b6 (by first | rfl | (simp only [IntKind.wrap, IntKind.bits, IntKind.signed, wrap64, wrap32]; simp; try omega) | (simp only [IntKind.wrap, IntKind.bits, IntKind.signed, wrap64, wrap32]; (repeat' split) <;> omega)) (by omega) (by show _ < (2 : Int) ^ 64; omega)
  have g7 := or_step .i64 56 (x0 + x1 * 256 + x2 * 65536 + x3 * 16777216 + x4 * 4294967296 + x5 * 1099511627776 + x6 * 281474976710656) (wrap64 (x7 * 72057594037927936)) x7 (x0 + x1 * 256 + x2 * 65536 + x3 * 16777216 + x4 * 4294967296 + x5 * 1099511627776 + x6 * 281474976710656 + x7 * 72057594037927936) (by omega) (by omega) b7 (by first | rfl | (simp only [IntKind.wrap, IntKind.bits, IntKind.signed, wrap64, wrap32]; simp; try omega) | (simp only [IntKind.wrap, IntKind.bits, IntKind.signed, wrap64, wrap32]; (repeat' split) <;> omega)) (by omega) (by show _ < (2 : Int) ^ 64; omega)
  rw [← w0] at g0
  rw [g0, g1, g2, g3, g4, g5, g6, g7]
theorem put_u8 (g c : Nat) (x0 : Int) (w : World) (h0 : w.cell? ⟨g, 0, none⟩ = some (.int .u8 0)) (f0 : w.frozen? ⟨g, 0, none⟩ = false) :
    Calls Try.prog 28 #[.slice (some ⟨g, 0, none⟩) 1 c, .int .u8 x0] w fun e w' => e = .returned (.tuple #[]) ∧ w' = (w.setCell ⟨g, 0, none⟩ (.int .u8 x0)) := by
  go_enter Try.func28, Try.ntmps28
  go_wp2
  go_end0
  exact ⟨rfl, rfl⟩
set_option maxHeartbeats 1000000 in
theorem put_u16 (g c : Nat) (x x0 x1 : Int) (w : World) (e0 : x % 256 = x0) (e1 : x / 256 % 256 = x1) (h0 : w.cell? ⟨g, 0, none⟩ = some (.int .u8 0)) (f0 : w.frozen? ⟨g, 0, none⟩ = false) (h1 : w.cell? ⟨g, 1, none⟩ = some (.int .u8 0)) (f1 : w.frozen? ⟨g, 1, none⟩ = false) :
    Calls Try.prog 30 #[.slice (some ⟨g, 0, none⟩) 2 c, .int .u16 x] w fun e w' => e = .returned (.tuple #[]) ∧ w' = ((w.setCell ⟨g, 0, none⟩ (.int .u8 x0)).setCell ⟨g, 1, none⟩ (.int .u8 x1)) := by
  go_enter Try.func30, Try.ntmps30
  go_wp2
  go_end0
  exact ⟨rfl, rfl⟩
set_option maxHeartbeats 1000000 in
theorem put_u32 (g c : Nat) (x x0 x1 x2 x3 : Int) (w : World) (e0 : x % 256 = x0) (e1 : x / 256 % 256 = x1) (e2 : x / 65536 % 256 = x2) (e3 : x / 16777216 % 256 = x3) (h0 : w.cell? ⟨g, 0, none⟩ = some (.int .u8 0)) (f0 : w.frozen? ⟨g, 0, none⟩ = false) (h1 : w.cell? ⟨g, 1, none⟩ = some (.int .u8 0)) (f1 : w.frozen? ⟨g, 1, none⟩ = false) (h2 : w.cell? ⟨g, 2, none⟩ = some (.int .u8 0)) (f2 : w.frozen? ⟨g, 2, none⟩ = false) (h3 : w.cell? ⟨g, 3, none⟩ = some (.int .u8 0)) (f3 : w.frozen? ⟨g, 3, none⟩ = false) :
    Calls Try.prog 32 #[.slice (some ⟨g, 0, none⟩) 4 c, .int .u32 x] w fun e w' => e = .returned (.tuple #[]) ∧ w' = ((((w.setCell ⟨g, 0, none⟩ (.int .u8 x0)).setCell ⟨g, 1, none⟩ (.int .u8 x1)).setCell ⟨g, 2, none⟩ (.int .u8 x2)).setCell ⟨g, 3, none⟩ (.int .u8 x3)) := by
  go_enter Try.func32, Try.ntmps32
  go_wp2
  go_end0
  exact ⟨rfl, rfl⟩
set_option maxHeartbeats 1000000 in
theorem put_u64 (g c : Nat) (x x0 x1 x2 x3 x4 x5 x6 x7 : Int) (w : World) (e0 : x % 256 = x0) (e1 : x / 256 % 256 = x1) (e2 : x / 65536 % 256 = x2) (e3 : x / 16777216 % 256 = x3) (e4 : x / 4294967296 % 256 = x4) (e5 : x / 1099511627776 % 256 = x5) (e6 : x / 281474976710656 % 256 = x6) (e7 : x / 72057594037927936 % 256 = x7) (h0 : w.cell? ⟨g, 0, none⟩ = some (.int .u8 0)) (f0 : w.frozen? ⟨g, 0, none⟩ = false) (h1 : w.cell? ⟨g, 1, none⟩ = some (.int .u8 0)) (f1 : w.frozen? ⟨g, 1, none⟩ = false) (h2 : w.cell? ⟨g, 2, none⟩ = some (.int .u8 0)) (f2 : w.frozen? ⟨g, 2, none⟩ = false) (h3 : w.cell? ⟨g, 3, none⟩ = some (.int .u8 0)) (f3 : w.frozen? ⟨g, 3, none⟩ = false) (h4 : w.cell? ⟨g, 4, none⟩ = some (.int .u8 0)) (f4 : w.frozen? ⟨g, 4, none⟩ = false) (h5 : w.cell? ⟨g, 5, none⟩ = some (.int .u8 0)) (f5 : w.frozen? ⟨g, 5, none⟩ = false) (h6 : w.cell? ⟨g, 6, none⟩ = some (.int .u8 0)) (f6 : w.frozen? ⟨g, 6, none⟩ = false) (h7 : w.cell? ⟨g, 7, none⟩ = some (.int .u8 0)) (f7 : w.frozen? ⟨g, 7, none⟩ = false) :
    Calls Try.prog 34 #[.slice (some ⟨g, 0, none⟩) 8 c, .int .u64 x] w fun e w' => e = .returned (.tuple #[]) ∧ w' = ((((((((w.setCell ⟨g, 0, none⟩ (.int .u8 x0)).setCell ⟨g, 1, none⟩ (.int .u8 x1)).setCell ⟨g, 2, none⟩ (.int .u8 x2)).setCell ⟨g, 3, none⟩ (.int .u8 x3)).setCell ⟨g, 4, none⟩ (.int .u8 x4)).setCell ⟨g, 5, none⟩ (.int .u8 x5)).setCell ⟨g, 6, none⟩ (.int .u8 x6)).setCell ⟨g, 7, none⟩ (.int .u8 x7)) := by
  go_enter Try.func34, Try.ntmps34
  go_wp2
  go_end0
  exact ⟨rfl, rfl⟩
set_option maxHeartbeats 1000000 in
theorem put_i8 (g c : Nat) (x x0 : Int) (w : World) (e0 : x % 256 = x0) (h0 : w.cell? ⟨g, 0, none⟩ = some (.int .u8 0)) (f0 : w.frozen? ⟨g, 0, none⟩ = false) :
    Calls Try.prog 46 #[.slice (some ⟨g, 0, none⟩) 1 c, .int .i8 x] w fun e w' => e = .returned (.tuple #[]) ∧ w' = (w.setCell ⟨g, 0, none⟩ (.int .u8 x0)) := by
  go_enter Try.func46, Try.ntmps46
  go_wp2
  go_end0
  exact ⟨rfl, rfl⟩
set_option maxHeartbeats 1000000 in
theorem put_i16 (g c : Nat) (x x0 x1 : Int) (w : World) (e0 : x % 256 = x0) (e1 : x / 256 % 256 = x1) (h0 : w.cell? ⟨g, 0, none⟩ = some (.int .u8 0)) (f0 : w.frozen? ⟨g, 0, none⟩ = false) (h1 : w.cell? ⟨g, 1, none⟩ = some (.int .u8 0)) (f1 : w.frozen? ⟨g, 1, none⟩ = false) :
    Calls Try.prog 48 #[.slice (some ⟨g, 0, none⟩) 2 c, .int .i16 x] w fun e w' => e = .returned (.tuple #[]) ∧ w' = ((w.setCell ⟨g, 0, none⟩ (.int .u8 x0)).setCell ⟨g, 1, none⟩ (.int .u8 x1)) := by
  go_enter Try.func48, Try.ntmps48
  go_wp2
  go_end0
  exact ⟨rfl, rfl⟩
set_option maxHeartbeats 1000000 in
theorem put_i32 (g c : Nat) (x x0 x1 x2 x3 : Int) (w : World) (e0 : x % 256 = x0) (e1 : x / 256 % 256 = x1) (e2 : x / 65536 % 256 = x2) (e3 : x / 16777216 % 256 = x3) (h0 : w.cell? ⟨g, 0, none⟩ = some (.int .u8 0)) (f0 : w.frozen? ⟨g, 0, none⟩ = false) (h1 : w.cell? ⟨g, 1, none⟩ = some (.int .u8 0)) (f1 : w.frozen? ⟨g, 1, none⟩ = false) (h2 : w.cell? ⟨g, 2, none⟩ = some (.int .u8 0)) (f2 : w.frozen? ⟨g, 2, none⟩ = false) (h3 : w.cell? ⟨g, 3, none⟩ = some (.int .u8 0)) (f3 : w.frozen? ⟨g, 3, none⟩ = false) :
    Calls Try.prog 50 #[.slice (some ⟨g, 0, none⟩) 4 c, .int .i32 x] w fun e w' => e = .returned (.tuple #[]) ∧ w' = ((((w.setCell ⟨g, 0, none⟩ (.int .u8 x0)).setCell ⟨g, 1, none⟩ (.int .u8 x1)).setCell ⟨g, 2, none⟩ (.int .u8 x2)).setCell ⟨g, 3, none⟩ (.int .u8 x3)) := by
  go_enter Try.func50, Try.ntmps50
  go_wp2
  go_end0
  exact ⟨rfl, rfl⟩
set_option maxHeartbeats 1000000 in
theorem put_i64 (g c : Nat) (x x0 x1 x2 x3 x4 x5 x6 x7 : Int) (w : World) (e0 : x % 256 = x0) (e1 : x / 256 % 256 = x1) (e2 : x / 65536 % 256 = x2) (e3 : x / 16777216 % 256 = x3) (e4 : x / 4294967296 % 256 = x4) (e5 : x / 1099511627776 % 256 = x5) (e6 : x / 281474976710656 % 256 = x6) (e7 : x / 72057594037927936 % 256 = x7) (h0 : w.cell? ⟨g, 0, none⟩ = some (.int .u8 0)) (f0 : w.frozen? ⟨g, 0, none⟩ = false) (h1 : w.cell? ⟨g, 1, none⟩ = some (.int .u8 0)) (f1 : w.frozen? ⟨g, 1, none⟩ = false) (h2 : w.cell? ⟨g, 2, none⟩ = some (.int .u8 0)) (f2 : w.frozen? ⟨g, 2, none⟩ = false) (h3 : w.cell? ⟨g, 3, none⟩ = some (.int .u8 0)) (f3 : w.frozen? ⟨g, 3, none⟩ = false) (h4 : w.cell? ⟨g, 4, none⟩ = some (.int .u8 0)) (f4 : w.frozen? ⟨g, 4, none⟩ = false) (h5 : w.cell? ⟨g, 5, none⟩ = some (.int .u8 0)) (f5 : w.frozen? ⟨g, 5, none⟩ = false) (h6 : w.cell? ⟨g, 6, none⟩ = some (.int .u8 0)) (f6 : w.frozen? ⟨g, 6, none⟩ = false) (h7 : w.cell? ⟨g, 7, none⟩ = some (.int .u8 0)) (f7 : w.frozen? ⟨g, 7, none⟩ = false) :
    Calls Try.prog 52 #[.slice (some ⟨g, 0, none⟩) 8 c, .int .i64 x] w fun e w' => e = .returned (.tuple #[]) ∧ w' = ((((((((w.setCell ⟨g, 0, none⟩ (.int .u8 x0)).setCell ⟨g, 1, none⟩ (.int .u8 x1)).setCell ⟨g, 2, none⟩ (.int .u8 x2)).setCell ⟨g, 3, none⟩ (.int .u8 x3)).setCell ⟨g, 4, none⟩ (.int .u8 x4)).setCell ⟨g, 5, none⟩ (.int .u8 x5)).setCell ⟨g, 6, none⟩ (.int .u8 x6)).setCell ⟨g, 7, none⟩ (.int .u8 x7)) := by
  go_enter Try.func52, Try.ntmps52
  go_wp2
  go_end0
  exact ⟨rfl, rfl⟩
end Go.Proofs.Ytbepnloclnjkfaa.V
