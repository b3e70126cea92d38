/- What the small functions of the readers of bits do. -/
import Derived.Test.YthgbfmcicpmepaaDoorProg
import Derived.Test.YthgbfmcicpmepaaDoorBP
import Derived.WalkKit
import Derived.WalkLawsBesides
import Derived.Below
import Derived.Laws.Externs
import Derived.Laws.BitsAllLaws
import Derived.Laws.ShiftsVarLaws
import Derived.Lib.Hide
import Derived.Outline
import Derived.Deep.QuietTactic
import Derived.BigQuiet
import Derived.Defers
import Derived.Recover
namespace Go.Proofs.YthgbfmcicpmepaaDoor.V
open Go.RowKit Go.Proofs.YthgbfmcicpmepaaDoor.B
set_option linter.unusedVariables false
set_option linter.unusedSimpArgs false
/-! ### What is touched -/
/-- Only the blocks of S, and new ones, are others. -/
structure Tch (S : Nat → Prop) (w w' : World) : Prop where
  os : w'.os = w.os
  tape : w'.tape = w.tape
  output : w'.output = w.output
  size : w.heap.size ≤ w'.heap.size
  block : ∀ k, k < w.heap.size → ¬ S k → w'.heap[k]? = w.heap[k]?
theorem Tch.refl (S : Nat → Prop) (w : World) : Tch S w w := ⟨rfl, rfl, rfl, Nat.le_refl _, fun _ _ _ => rfl⟩
theorem Tch.trans {S : Nat → Prop} {a b c : World} (h : Tch S a b) (k : Tch S b c) : Tch S a c :=
  ⟨k.os.trans h.os, k.tape.trans h.tape, k.output.trans h.output, Nat.le_trans h.size k.size, fun i hi hn => (k.block i (Nat.lt_of_lt_of_le hi h.size) hn).trans (h.block i hi hn)⟩
/-- The second one may also touch what is new to the first. -/
theorem Tch.then_ {S S2 : Nat → Prop} {a b c : World} (h : Tch S a b) (k : Tch S2 b c) (hs : ∀ i, S2 i → S i ∨ a.heap.size ≤ i) : Tch S a c :=
  ⟨k.os.trans h.os, k.tape.trans h.tape, k.output.trans h.output, Nat.le_trans h.size k.size, fun i hi hn => (k.block i (Nat.lt_of_lt_of_le hi h.size) (fun hk => (hs i hk).elim hn (fun h => by omega))).trans (h.block i hi hn)⟩
theorem Tch.mono {S S' : Nat → Prop} {a b : World} (h : Tch S a b) (hs : ∀ i, S i → S' i) : Tch S' a b := ⟨h.os, h.tape, h.output, h.size, fun i hi hn => h.block i hi (fun hk => hn (hs i hk))⟩
theorem Tch.of_below {S : Nat → Prop} {a b : World} (h : Below a.heap.size a b) : Tch S a b := ⟨h.os, h.tape, h.output, h.size, fun i hi _ => h.block i hi⟩
theorem Tch.alloc {S : Nat → Prop} {a w : World} (h : Tch S a w) (o : Obj) : Tch S a (w.alloc o) := h.trans (Tch.of_below ((Below.refl _ _).alloc (Nat.le_refl _) o))
theorem Tch.drew {S : Nat → Prop} {a w : World} (h : Tch S a w) : Tch S a w.drew := ⟨h.os, h.tape, h.output, h.size, h.block⟩
theorem Tch.set {S : Nat → Prop} {a w : World} (h : Tch S a w) {p : Addr} (hp : S p.block ∨ a.heap.size ≤ p.block) (u : Value) : Tch S a (w.setCell p u) := by
  have k := (Below.refl 0 w).setCell (Nat.zero_le p.block) u
  refine h.then_ (S2 := fun i => i = p.block) ⟨k.os, k.tape, k.output, k.size, fun i hi hn => Below.heap_setCell w p u i hn⟩ ?_
  rintro i rfl
  exact hp
theorem Tch.below {S : Nat → Prop} {B : Nat} {a b c : World} (h : Below B a b) (k : Tch S b c) (hB : B ≤ b.heap.size) (hs : ∀ i, S i → B ≤ i) : Below B a c :=
  h.trans ⟨k.os, k.tape, k.output, k.size, fun i hi => k.block i (Nat.lt_of_lt_of_le hi hB) (fun hk => by have := hs i hk; omega)⟩
theorem Tch.lt {w : World} {g : Nat} {o : Obj} (h : w.heap[g]? = some o) : g < w.heap.size := by
  rcases Nat.lt_or_ge g w.heap.size with h' | h'
  · exact h'
  · rw [Array.getElem?_eq_none h'] at h
    cases h
theorem Tch.blk {S : Nat → Prop} {a b : World} (k : Tch S a b) {g : Nat} {o : Obj} (h : a.heap[g]? = some o) (hn : ¬ S g) : b.heap[g]? = some o := (k.block g (Tch.lt h) hn).trans h
theorem Tch.cell {S : Nat → Prop} {a b : World} (k : Tch S a b) {p : Addr} {v : Value} (h : a.cell? p = some v) (hn : ¬ S p.block) : b.cell? p = some v :=
  (World.cell?_of_block (w := a) (k.block p.block (World.block_lt_of_cell? a p h) hn)).trans h
/-! ### The data -/
/-- A row of bytes lies at a place. -/
structure Dat (w : World) (B O L : Nat) (D : Nat → Nat) : Prop where
  cell : ∀ j, j < L → w.cell? ⟨B, O + j, none⟩ = some (.int .u8 (D j))
  byte : ∀ j, D j < 256
theorem Dat.tch {S : Nat → Prop} {w w' : World} {B O L : Nat} {D : Nat → Nat} (h : Dat w B O L D) (k : Tch S w w') (hn : ¬ S B) : Dat w' B O L D := ⟨fun j hj => k.cell (h.cell j hj) hn, h.byte⟩
theorem Dat.at_ {w : World} {B O L : Nat} {D : Nat → Nat} (h : Dat w B O L D) (j n : Nat) (hj : j < L) (hn : n = O + j) : w.cell? ⟨B, n, none⟩ = some (.int .u8 (D j)) := by subst hn; exact h.cell j hj
/-! ### Bits -/
theorem ofInt_wrap (k : IntKind) (a : Int) : BitVec.ofInt k.bits (k.wrap a) = BitVec.ofInt k.bits a := by
  apply BitVec.eq_of_toNat_eq
  rw [BitVec.toNat_ofInt, BitVec.toNat_ofInt]
  cases k <;> simp only [IntKind.wrap, IntKind.bits, IntKind.signed] <;> (try split) <;> omega
/-- Or of two numbers that share no bit, wrapped. -/
theorem or_k (k : IntKind) (i : Nat) (A y : Nat) (hA : A < 2 ^ i) (hAB : A + 2 ^ i * y < 2 ^ k.bits) : bits .or k (k.wrap (A : Int)) (k.wrap ((2 ^ i * y : Nat) : Int)) = k.wrap ((A + 2 ^ i * y : Nat) : Int) := by
  have e : bits .or k (k.wrap (A : Int)) (k.wrap ((2 ^ i * y : Nat) : Int)) = k.wrap (((BitVec.ofInt k.bits (k.wrap (A : Int)) ||| BitVec.ofInt k.bits (k.wrap ((2 ^ i * y : Nat) : Int))).toNat : Nat) : Int) := rfl
  rw [e, ofInt_wrap, ofInt_wrap, BitVec.ofInt_natCast, BitVec.ofInt_natCast, BitVec.toNat_or, BitVec.toNat_ofNat, BitVec.toNat_ofNat, Nat.mod_eq_of_lt (by omega), Nat.mod_eq_of_lt (by omega), Nat.or_comm, ← Nat.two_pow_add_eq_or_of_lt hA, Nat.add_comm]
theorem wrap_u64 (x : Nat) (h : x < 2 ^ 64) : IntKind.u64.wrap (x : Int) = x := by simp [IntKind.wrap, IntKind.bits, IntKind.signed]; omega
theorem wrap_u8 (x : Nat) (h : x < 256) : IntKind.u8.wrap (x : Int) = x := by simp [IntKind.wrap, IntKind.bits, IntKind.signed]; omega
theorem or_u64 (i : Nat) (A y : Nat) (hA : A < 2 ^ i) (hAB : A + 2 ^ i * y < 2 ^ 64) : bits .or .u64 (A : Int) ((2 ^ i * y : Nat) : Int) = ((A + 2 ^ i * y : Nat) : Int) := by
  have h := or_k .u64 i A y hA hAB
  rw [wrap_u64 _ (by omega), wrap_u64 _ (by omega), wrap_u64 _ hAB] at h
  exact h
theorem or_u8 (i : Nat) (A y : Nat) (hA : A < 2 ^ i) (hAB : A + 2 ^ i * y < 256) : bits .or .u8 (A : Int) ((2 ^ i * y : Nat) : Int) = ((A + 2 ^ i * y : Nat) : Int) := by
  have h := or_k .u8 i A y hA hAB
  rw [wrap_u8 _ (by omega), wrap_u8 _ (by omega), wrap_u8 _ hAB] at h
  exact h
theorem or_u64' (i : Nat) (A y : Nat) (hA : A < 2 ^ i) (hAB : A + 2 ^ i * y < 2 ^ 64) : bits .or .u64 ((2 ^ i * y : Nat) : Int) (A : Int) = ((A + 2 ^ i * y : Nat) : Int) := by
  rw [← or_u64 i A y hA hAB]
  have e : ∀ a b : Int, bits .or .u64 a b = IntKind.u64.wrap (((BitVec.ofInt 64 a ||| BitVec.ofInt 64 b).toNat : Nat) : Int) := fun a b => rfl
  rw [e, e, BitVec.or_comm]
theorem clear_low (cw : Nat) (h : cw < 2 ^ 64) : bits .andNot .u64 (cw : Int) 255 = ((2 ^ 8 * (cw / 256) : Nat) : Int) := by
  have e : bits .andNot .u64 (cw : Int) 255 = IntKind.u64.wrap (((BitVec.ofInt 64 (cw : Int) &&& ~~~ (BitVec.ofInt 64 255)).toNat : Nat) : Int) := rfl
  have e2 : (BitVec.ofInt 64 (cw : Int) &&& ~~~ (BitVec.ofInt 64 255)) = BitVec.ofNat 64 (2 ^ 8 * (cw / 256)) := by
    rw [BitVec.ofInt_natCast]
    apply BitVec.eq_of_getLsbD_eq
    intro i hi
    simp only [BitVec.getLsbD_and, BitVec.getLsbD_not, BitVec.getLsbD_ofNat, hi, decide_true, Bool.true_and]
    rw [show cw / 256 = cw / 2 ^ 8 by rfl, Nat.testBit_two_pow_mul, Nat.testBit_div_two_pow]
    have : (BitVec.ofInt 64 255).getLsbD i = decide (i < 8) := by
      have := (by decide : ∀ i : Fin 64, (BitVec.ofInt 64 255).getLsbD i.val = decide (i.val < 8)) ⟨i, hi⟩
      exact this
    rw [this]
    by_cases h8 : i < 8
    · simp [h8]; omega
    · simp [h8, show 8 ≤ i by omega, show i - 8 + 8 = i by omega]
  rw [e, e2, BitVec.toNat_ofNat, Nat.mod_eq_of_lt (by omega), wrap_u64 _ (by omega)]
end Go.Proofs.YthgbfmcicpmepaaDoor.V
