/- The plain law of FnSameBits: what impl.SameBits answers is what the lists of bits say. -/
import Derived.Test.YthgbfmcicpmepaaDoorBV2
namespace Go.Proofs.YthgbfmcicpmepaaDoor.V
open Go.RowKit Go.Proofs.YthgbfmcicpmepaaDoor.B Go.Proofs.YthgbfmcicpmepaaDoorW.PrintWords Go.Proofs.YthgbfmcicpmepaaDoorW.PrintLast Go.Proofs.YthgbfmcicpmepaaDoorW.PrintMore
set_option linter.unusedVariables false
set_option linter.unusedSimpArgs false
theorem bit_fin : ∀ x : Fin 256, ∀ k : Fin 8, (Go.bits .and .u8 (shr .u8 (x.val : Int) (k.val : Int)) 1 == 1) = x.val.testBit k.val := by decide +kernel
theorem spec_bit {l : List Int} (hb : ∀ x ∈ l, 0 ≤ x ∧ x < 256) (i : Nat) (hi : i < 8 * l.length) (hl : l.length < 2 ^ 40) : spec_Bit.f l (i : Int) = some (bitD (DL l) i) := by
  have e0 : Int.tdiv (i : Int) 8 = ((i / 8 : Nat) : Int) := by rw [Int.tdiv_eq_ediv_of_nonneg (by omega)]; rfl
  have e1 : Int.tmod (i : Int) 8 = ((i % 8 : Nat) : Int) := by rw [Int.tmod_eq_emod_of_nonneg (by omega)]; rfl
  unfold spec_Bit.f
  rw [e0, e1, w64_id _ (by omega) (by omega), if_pos (by omega), if_pos (by omega), if_pos (by omega), ← DL_int hb]
  exact congrArg some (bit_fin ⟨DL l (i / 8), DL_lt hb _⟩ ⟨i % 8, by omega⟩)
/-- So many bits from a place on. -/
def bitsOf (D : Nat → Nat) (p n : Nat) : List Bool := (List.range n).map fun i => bitD D (p + i)
theorem bitsOf_len (D : Nat → Nat) (p n : Nat) : (bitsOf D p n).length = n := by simp [bitsOf]
theorem list_loop {l : List Int} (hb : ∀ x ∈ l, 0 ≤ x ∧ x < 256) (hl : l.length < 2 ^ 36) (p n : Nat) (hp : p + n ≤ 8 * l.length) : ∀ (d k i : Nat) (x : List Bool), i + d = n → d < k → x.length = n → (∀ j, j < i → x[j]? = some (bitD (DL l) (p + j))) → spec_BitList.l0 k l (p : Int) x (n : Int) (i : Int) = some (bitsOf (DL l) p n, true)
  | d, 0, i, x, _, hk, _, _ => absurd hk (by omega)
  | 0, k + 1, i, x, hi, _, hx, hc => by
    obtain rfl : i = n := by omega
    rw [spec_BitList.l0, if_neg (by omega)]
    congr 2
    apply List.ext_getElem?
    intro j
    by_cases hj : j < i
    · rw [hc j hj, bitsOf, List.getElem?_map, List.getElem?_range hj]
      rfl
    · rw [List.getElem?_eq_none (by omega), List.getElem?_eq_none (by rw [bitsOf_len]; omega)]
  | d + 1, k + 1, i, x, hi, hk, hx, hc => by
    have e : wrap64 ((p : Int) + (i : Int)) = ((p + i : Nat) : Int) := by rw [w64_id _ (by omega) (by omega)]; omega
    have e2 : wrap64 ((i : Int) + 1) = ((i + 1 : Nat) : Int) := by clear e; rw [w64_id _ (by omega) (by omega)]; omega
    rw [spec_BitList.l0, if_pos (by clear e e2; omega), e, spec_bit hb (p + i) (by clear e e2; omega) (by clear e e2; omega)]
    rw [Option.bind_some, if_pos (by clear e e2; omega), if_pos (by clear e e2; omega), e2, Int.toNat_natCast]
    clear e e2
    refine list_loop hb hl p n hp d k (i + 1) _ (by omega) (by omega) (by rw [List.length_set]; exact hx) (fun j hj => ?_)
    by_cases hji : j = i
    · subst hji
      rw [List.getElem?_set_self (by omega)]
    · rw [List.getElem?_set_ne (by omega)]
      exact hc j (by omega)
theorem list_bits {l : List Int} (hb : ∀ x ∈ l, 0 ≤ x ∧ x < 256) (hl : l.length < 2 ^ 36) (p n k : Nat) (hp : p + n ≤ 8 * l.length) (hk : n + 1 < k) : spec_BitList.f k l (p : Int) (n : Int) = some (bitsOf (DL l) p n, true) := by
  have e0 : wrap64 (8 * (l.length : Int)) = 8 * (l.length : Int) := w64_id _ (by omega) (by omega)
  have e1 : wrap64 (8 * (l.length : Int) - (n : Int)) = 8 * (l.length : Int) - (n : Int) := by clear e0; exact w64_id _ (by omega) (by omega)
  unfold spec_BitList.f
  rw [if_neg (by clear e0 e1; omega), if_neg (by clear e0 e1; omega), e0, e1]
  clear e0 e1
  rw [show decide ((p : Int) > 8 * (l.length : Int) - (n : Int)) = false from decide_eq_false (by omega)]
  obtain ⟨k, rfl⟩ : ∃ k', k = k' + 1 := ⟨k - 1, by omega⟩
  rw [spec_BitList.j0, if_neg (by decide), if_pos (by omega), if_pos (by omega), Int.toNat_natCast]
  show spec_BitList.l0 k l (p : Int) (List.replicate n false) ((List.replicate n false).length : Int) 0 = _
  rw [List.length_replicate]
  exact list_loop hb hl p n hp n k 0 _ (by omega) (by omega) (by simp) (fun j hj => by omega)
theorem rd_bits (D : Nat → Nat) (p n i : Nat) (hi : i < n) : rdOf false (bitsOf D p n) (i : Int) = bitD D (p + i) := by
  have e : rdOf false (bitsOf D p n) (i : Int) = (bitsOf D p n).getD i false := by first | rfl | simp [rdOf]
  rw [e, List.getD_eq_getElem?_getD, bitsOf, List.getElem?_map, List.getElem?_range hi]
  rfl
theorem same_loop (D E : Nat → Nat) (p q n : Nat) (hn : n < 2 ^ 40) (z : Bool) (hz : z = true ↔ Same D E p q n) : ∀ (d k i : Nat), i + d = n → d < k → Same D E p q i → spec_SameBools.l0 k (bitsOf D p n) (bitsOf E q n) (n : Int) (i : Int) = some z
  | d, 0, i, _, hk, _ => absurd hk (by omega)
  | 0, k + 1, i, hi, _, hs => by
    obtain rfl : i = n := by omega
    rw [spec_SameBools.l0, if_neg (by omega), hz.2 hs]
  | d + 1, k + 1, i, hi, hk, hs => by
    have e2 : wrap64 ((i : Int) + 1) = ((i + 1 : Nat) : Int) := by rw [w64_id _ (by omega) (by omega)]; omega
    rw [spec_SameBools.l0, bitsOf_len, bitsOf_len, if_pos (by clear e2; omega), if_pos (by clear e2; omega), if_pos (by clear e2; omega), if_pos (by clear e2; omega), rd_bits D p n i (by clear e2; omega), rd_bits E q n i (by clear e2; omega), e2]
    clear e2
    by_cases hb : bitD D (p + i) = bitD E (q + i)
    · rw [if_neg (by simp [hb])]
      exact same_loop D E p q n hn z hz d k (i + 1) (by omega) (by omega) (same_add.2 ⟨hs, fun j hj => by rw [show j = 0 by omega]; exact hb⟩)
    · rw [if_pos (by simp [hb]), no_z hz (fun h => hb (h i (by omega)))]
theorem same_bools (D E : Nat → Nat) (p q n k : Nat) (hn : n < 2 ^ 40) (hk : n < k) (z : Bool) (hz : z = true ↔ Same D E p q n) : spec_SameBools.f k (bitsOf D p n) (bitsOf E q n) = some z := by
  unfold spec_SameBools.f
  rw [bitsOf_len, bitsOf_len, if_pos rfl]
  exact same_loop D E p q n hn z hz n k 0 (by omega) hk (Same.zero _ _ _ _)
/-- Whether so many bits from a place on are there. -/
theorem within_some (l : List Int) (a n : Int) : laws_within.f l a n = some true ∧ l.length ≤ 4096 ∧ 0 ≤ a ∧ 0 ≤ n ∧ a + n ≤ 8 * (l.length : Int) ∨ laws_within.f l a n = some false := by
  unfold laws_within.f
  split
  · next h0 =>
    split
    · next h1 =>
      split
      · next h2 =>
        have e0 : wrap64 (8 * (l.length : Int)) = 8 * (l.length : Int) := w64_id _ (by omega) (by omega)
        rw [e0]
        clear e0
        split
        · next h3 =>
          have e1 : wrap64 (8 * (l.length : Int) - a) = 8 * (l.length : Int) - a := w64_id _ (by omega) (by omega)
          rw [e1]
          clear e1
          by_cases h4 : n ≤ 8 * (l.length : Int) - a
          · left
            exact ⟨by rw [decide_eq_true h4], by omega, h1, h2, by omega⟩
          · right
            rw [decide_eq_false h4]
        · exact .inr rfl
      · exact .inr rfl
    · exact .inr rfl
  · exact .inr rfl
theorem byte_wf {l : List Int} (h : ∀ x ∈ l, (Lit.int .u8 x).wf = true) : ∀ x ∈ l, 0 ≤ x ∧ x < 256 := fun x hx => by
  have := h x hx
  simp [Lit.wf, IntKind.min, IntKind.max, IntKind.signed, IntKind.bits] at this
  omega
theorem sameBits_pure : laws_FnSameBits.Pure := by
  intro l0 l1 a2 a3 a4 h0 h0' w0 h1 h1' w1 w2 w3 w4
  have y0 := byte_wf w0
  have y1 := byte_wf w1
  refine ⟨a4.toNat + 10, ?_⟩
  unfold laws_FnSameBits.f
  have stop : ∀ k, laws_FnSameBits.j0 (k + 1) l0 l1 a2 a3 a4 true = some true := fun k => by rw [laws_FnSameBits.j0, if_pos rfl]
  have stop1 : ∀ k, laws_FnSameBits.j1 (k + 1) l0 l1 a2 a3 a4 true = some true := fun k => by rw [laws_FnSameBits.j1, if_pos rfl]
  split
  · exact stop _
  · by_cases hz : (l1.length : Int) > 2147483647
    · rw [decide_eq_true hz]
      exact stop _
    · rw [decide_eq_false hz, laws_FnSameBits.j0, if_neg (by decide)]
      rcases within_some l0 a2 a4 with ⟨e0, g0, g2, g4, s0⟩ | e0
      · rw [e0]
        rw [Option.bind_some, if_pos rfl]
        rcases within_some l1 a3 a4 with ⟨e1, g1, g3, _, s1⟩ | e1
        · rw [e1]
          rw [Option.bind_some, show (!true) = false from rfl]
          obtain ⟨p, rfl⟩ := Int.eq_ofNat_of_zero_le g2
          obtain ⟨q, rfl⟩ := Int.eq_ofNat_of_zero_le g3
          obtain ⟨n, rfl⟩ := Int.eq_ofNat_of_zero_le g4
          rw [laws_FnSameBits.j1, if_neg (by decide), Int.toNat_natCast, list_bits y0 (by omega) p n _ (by omega) (by omega)]
          rw [Option.bind_some, list_bits y1 (by omega) q n _ (by omega) (by omega)]
          rw [Option.bind_some]
          unfold impl_SameBits.f
          rw [if_pos ⟨by omega, by omega, by omega, by omega, by omega, by omega, by omega, y0, y1⟩, Int.toNat_natCast, Int.toNat_natCast, Int.toNat_natCast]
          rw [Option.bind_some, same_bools (DL l0) (DL l1) p q n _ (by omega) (by omega) (pk (DL l0) p n == pk (DL l1) q n) (by rw [beq_iff_eq]; exact same_pk)]
          simp
        · rw [e1, Option.bind_some]
          exact stop1 (a4.toNat + 8)
      · rw [e0, Option.bind_some, if_neg (by decide)]
        exact stop1 (a4.toNat + 8)
end Go.Proofs.YthgbfmcicpmepaaDoor.V
