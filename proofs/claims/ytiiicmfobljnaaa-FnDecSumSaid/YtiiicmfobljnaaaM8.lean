/- Words and what wraps around: small facts for the laws of decimals. -/
import Derived.Test.YtiiicmfobljnaaaM7
namespace Go.Proofs.Ytiiicmfobljnaaa.M
open Go.RowKit Go.Proofs.YtiiicmfobljnaaaW.PrintWords Go.Proofs.YtiiicmfobljnaaaW.PrintLast Go.Proofs.YtiiicmfobljnaaaW.PrintMore Go.Proofs.Ytiiicmfobljnaaa.V
attribute [local irreducible] dv BB rd

theorem rd_single (x : Int) : rd [x] 0 = x := rd_lt (l := [x]) (i := 0) (by simp)
theorem sv_one {l : List Int} (h : U64 l) (h1 : l.length = 1) : sv l = wrap64 (rd l 0) := by
  obtain ⟨x, rfl⟩ := List.length_eq_one_iff.mp h1
  have hx := h x (by simp)
  rw [rd_single]
  simp only [sv, uw, List.getLastD_cons, List.getLastD_nil, List.length_cons, List.length_nil]
  unfold wrap64
  split <;> omega
theorem wrap64_mod (z : Int) : wrap64 (z % 18446744073709551616) = wrap64 z := by unfold wrap64; omega
theorem wrap32_mod (z : Int) : wrap32 (z % 18446744073709551616) = wrap32 z := by unfold wrap32; omega
theorem u64_w64 (z : Int) : IntKind.u64.wrap (wrap64 z) = z % 18446744073709551616 := by rw [u64w]; unfold wrap64; omega
theorem w64_b (z : Int) : -9223372036854775808 ≤ wrap64 z ∧ wrap64 z < 9223372036854775808 := by unfold wrap64; omega
theorem w32_b (z : Int) : -2147483648 ≤ wrap32 z ∧ wrap32 z < 2147483648 := by unfold wrap32; omega
theorem w32 {z : Int} (h0 : -2147483648 ≤ z) (h1 : z < 2147483648) : wrap32 z = z := by unfold wrap32; omega
theorem w64_w32 (z : Int) : wrap64 (wrap32 z) = wrap32 z := by have := w32_b z; exact w64 (by omega) (by omega)
theorem len_i64 {n : Int} (h0 : -9223372036854775808 ≤ n) (h1 : n < 9223372036854775808) : (mg n.natAbs).length ≤ 2 := mg_length_le (by rw [show (4294967296 : Nat) ^ 2 = 18446744073709551616 from by decide]; omega)
theorem U64_of {l : List Int} (h : ∀ x ∈ l, (Lit.int .u64 x).wf = true) : U64 l := fun x hx => by
  have := bounds_u64 (h x hx)
  omega
/-- A decimal of 32 bits, by its word. -/
theorem dec32 {x : Int} (h : IntKind.u64.wrap (wrap64 (wrap32 x)) = x) : wrap64 x = wrap64 (wrap32 x) := by
  have e : wrap64 (IntKind.u64.wrap (wrap64 (wrap32 x))) = wrap64 (wrap32 x) := by rw [u64_w64, wrap64_mod]
  rw [h] at e
  exact e
theorem tmod_b (x y : Int) : (Int.tmod x y).natAbs ≤ x.natAbs := by rw [Int.natAbs_tmod]; exact Nat.mod_le _ _
theorem tdiv_b (x y : Int) : (Int.tdiv x y).natAbs ≤ x.natAbs := by rw [Int.natAbs_tdiv]; exact Nat.div_le_self _ _


/-- Two decimals of at most 64 bits: the width is 32 or 64, each one word. -/
theorem dec_two {a0 : Int} {l1 l2 : List Int} (d1 : isDec a0 l1 = true) (d2 : isDec a0 l2 = true) (ha : ¬ a0 > 64) :
    (a0 = 32 ∧ l1.length = 1 ∧ l2.length = 1 ∧ IntKind.u64.wrap (wrap64 (wrap32 (rd l1 0))) = rd l1 0 ∧ IntKind.u64.wrap (wrap64 (wrap32 (rd l2 0))) = rd l2 0) ∨ (a0 = 64 ∧ l1.length = 1 ∧ l2.length = 1) := by
  simp only [isDec, decide_eq_true_eq] at d1 d2
  obtain ⟨rfl, h1, h2⟩ | ⟨rfl, h1⟩ | ⟨rfl, h1⟩ | ⟨rfl, h1⟩ := d1
  · obtain ⟨_, h3, h4⟩ | ⟨h, _⟩ | ⟨h, _⟩ | ⟨h, _⟩ := d2
    · exact .inl ⟨rfl, h1, h3, h2, h4⟩
    all_goals omega
  · obtain ⟨h, _⟩ | ⟨_, h3⟩ | ⟨h, _⟩ | ⟨h, _⟩ := d2
    · omega
    · exact .inr ⟨rfl, h1, h3⟩
    all_goals omega
  · omega
  · omega
theorem wrW64 (z : Int) : wrW 64 z = [z % 18446744073709551616] := by
  show (if (64 : Int) = 32 then _ else wordsZ z (nW 64).toNat) = _
  rw [if_neg (by decide)]
  exact words_one_eq z
theorem wrW_short (a0 z : Int) (ha : a0 = 32 ∨ a0 = 64 ∨ a0 = 128 ∨ a0 = 256) : (wrW a0 z).length < 1073741824 := by
  unfold wrW
  split
  · simp
  · obtain rfl | rfl | rfl | rfl := ha <;> simp [wordsZ, nW]
end Go.Proofs.Ytiiicmfobljnaaa.M
