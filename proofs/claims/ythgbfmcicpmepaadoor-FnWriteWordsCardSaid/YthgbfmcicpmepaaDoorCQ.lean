/- The plain law of FnCopyBits. -/
import Derived.Test.YthgbfmcicpmepaaDoorBV4
import Derived.Test.YthgbfmcicpmepaaDoorBQ
namespace Go.Proofs.YthgbfmcicpmepaaDoor.V
open Go.RowKit Go.Proofs.YthgbfmcicpmepaaDoor.B Go.Proofs.YthgbfmcicpmepaaDoorW.PrintWords Go.Proofs.YthgbfmcicpmepaaDoorW.PrintLast Go.Proofs.YthgbfmcicpmepaaDoorW.PrintMore
set_option linter.unusedVariables false
set_option linter.unusedSimpArgs false
theorem put_fin : ∀ x : Fin 256, ∀ k : Fin 8, Go.bits .andNot .u8 (x.val : Int) (shl .u8 1 (k.val : Int)) = ((setb x.val k.val false : Nat) : Int) ∧ Go.bits .or .u8 (x.val : Int) (shl .u8 1 (k.val : Int)) = ((setb x.val k.val true : Nat) : Int) := by decide +kernel
/-- Bytes as a list. -/
def listOf (M : Nat → Nat) (n : Nat) : List Int := (List.range n).map fun j => (M j : Int)
theorem listOf_len (M : Nat → Nat) (n : Nat) : (listOf M n).length = n := by simp [listOf]
theorem listOf_rd (M : Nat → Nat) (n s : Nat) (hs : s < n) : rd (listOf M n) (s : Int) = (M s : Int) := by
  have e : rd (listOf M n) (s : Int) = (listOf M n).getD s 0 := by first | rfl | simp [rd]
  rw [e, List.getD_eq_getElem?_getD, listOf, List.getElem?_map, List.getElem?_range hs]
  rfl
theorem listOf_set (M : Nat → Nat) (n s v : Nat) : (listOf M n).set s (v : Int) = listOf (put1D M s v) n := by
  apply List.ext_getElem?
  intro j
  by_cases hj : j < n
  · by_cases hjs : j = s
    · subst hjs
      rw [List.getElem?_set_self (by rw [listOf_len]; exact hj), listOf, List.getElem?_map, List.getElem?_range hj]
      simp [put1D]
    · rw [List.getElem?_set_ne (fun e => hjs e.symm), listOf, listOf, List.getElem?_map, List.getElem?_map, List.getElem?_range hj]
      simp [put1D, hjs]
  · rw [List.getElem?_eq_none (by rw [List.length_set, listOf_len]; omega), List.getElem?_eq_none (by rw [listOf_len]; omega)]
theorem put_bit (M : Nat → Nat) (hM : ∀ j, M j < 256) (s k : Nat) (hk : k < 8) (v : Bool) (i : Nat) : bitD (put1D M s (setb (M s) k v)) i = if i = 8 * s + k then v else bitD M i := by
  rw [put1D_bit _ _ _ _ (setb_lt _ _ _ (hM s) hk)]
  by_cases h8 : 8 * s ≤ i ∧ i < 8 * s + 8
  · rw [if_pos h8, setb_bit _ _ _ _ (hM s) hk (by omega)]
    by_cases hi : i - 8 * s = k
    · rw [if_pos hi, if_pos (by omega)]
    · rw [if_neg hi, if_neg (by omega)]
      unfold bitD
      rw [show i / 8 = s by omega, show i % 8 = i - 8 * s by omega]
  · rw [if_neg h8, if_neg (by omega)]
theorem put_lt (M : Nat → Nat) (hM : ∀ j, M j < 256) (s k : Nat) (hk : k < 8) (v : Bool) (j : Nat) : put1D M s (setb (M s) k v) j < 256 := by
  unfold put1D
  split
  · exact setb_lt _ _ _ (hM s) hk
  · exact hM j
theorem turned_step (M M2 : Nat → Nat) (q i : Nat) (f : Nat → Bool) (M0 : Nat → Nat) (h : ∀ j, bitD M j = turned M0 q i f j) (h2 : ∀ j, bitD M2 j = if j = q + i then f i else bitD M j) (j : Nat) : bitD M2 j = turned M0 q (i + 1) f j := by
  rw [h2, h]
  unfold turned
  by_cases hj : j = q + i
  · rw [if_pos hj, if_pos (by omega), show j - q = i by omega]
  · rw [if_neg hj]
    by_cases c : q ≤ j ∧ j < q + i
    · rw [if_pos c, if_pos (by omega)]
    · rw [if_neg c, if_neg (by omega)]
theorem changed_loop (len q n : Nat) (bs : List Bool) (M0 : Nat → Nat) (hb : bs.length = n) (hq : q + n ≤ 8 * len) (hl : len < 2 ^ 36) : ∀ (d k i : Nat) (M : Nat → Nat), i + d = n → d < k → (∀ j, M j < 256) → (∀ j, bitD M j = turned M0 q i (fun i => rdOf false bs (i : Int)) j) → laws_changed.l0 k (q : Int) (listOf M len) bs (n : Int) (i : Int) = some (listOf (bytesB (turned M0 q n fun i => rdOf false bs (i : Int))) len)
  | d, 0, i, M, _, hk, _, _ => absurd hk (by omega)
  | 0, k + 1, i, M, hi, _, hM, h => by
    obtain rfl : i = n := by omega
    rw [laws_changed.l0, if_neg (by omega)]
    congr 1
    exact List.map_congr_left (fun j _ => by rw [bytesB_of hM h j])
  | d + 1, k + 1, i, M, hi, hk, hM, h => by
    have e0 : wrap64 ((q : Int) + (i : Int)) = ((q + i : Nat) : Int) := by rw [w64_id _ (by omega) (by omega)]; omega
    have e1 : Int.tdiv ((q + i : Nat) : Int) 8 = (((q + i) / 8 : Nat) : Int) := by rw [Int.tdiv_eq_ediv_of_nonneg (by omega)]; rfl
    have e2 : Int.tmod ((q + i : Nat) : Int) 8 = (((q + i) % 8 : Nat) : Int) := by rw [Int.tmod_eq_emod_of_nonneg (by omega)]; rfl
    obtain ⟨s, hs⟩ : ∃ s, s = (q + i) / 8 := ⟨_, rfl⟩
    obtain ⟨t, ht⟩ : ∃ t, t = (q + i) % 8 := ⟨_, rfl⟩
    rw [← hs] at e1
    rw [← ht] at e2
    have e3 : wrap64 (s : Int) = (s : Int) := by clear e0; exact w64_id _ (by omega) (by omega)
    have e4 : wrap64 ((i : Int) + 1) = ((i + 1 : Nat) : Int) := by clear e0 e3; rw [w64_id _ (by omega) (by omega)]; omega
    have hsl : s < len := by clear e0 e3 e4; omega
    have ht8 : t < 8 := by clear e0 e3 e4; omega
    have hin : i < n := by clear e0 e3 e4; omega
    have hst : 8 * s + t = q + i := by clear e0 e3 e4; omega
    have P := put_fin ⟨M s, hM s⟩ ⟨t, ht8⟩
    have hM2 := put_lt M hM s t ht8 false
    have P2 := (put_fin ⟨put1D M s (setb (M s) t false) s, hM2 s⟩ ⟨t, ht8⟩).2
    simp only at P P2
    rw [laws_changed.l0, e0, e1, e2, e3, e4, Int.toNat_natCast, listOf_len]
    clear e0 e1 e2 e3 e4
    rw [if_pos (by omega), if_pos (by omega), if_pos (by omega), if_pos (by omega), if_pos (by omega), if_pos (by omega), Option.bind_some, listOf_rd M len s hsl, P.1, listOf_set, listOf_rd _ len s hsl, P2, listOf_set]
    cases hv : rdOf false bs (i : Int) with
    | true =>
      rw [if_pos rfl]
      refine changed_loop len q n bs M0 hb hq hl d k (i + 1) _ (by omega) (by omega) (put_lt _ hM2 s t ht8 true) (turned_step M _ q i _ M0 h (fun j => ?_))
      rw [put_bit _ hM2 s t ht8, put_bit _ hM s t ht8, hst]
      by_cases hj : j = q + i
      · rw [if_pos hj, if_pos hj, hv]
      · rw [if_neg hj, if_neg hj, if_neg hj]
    | false =>
      rw [if_neg (by decide)]
      refine changed_loop len q n bs M0 hb hq hl d k (i + 1) _ (by omega) (by omega) hM2 (turned_step M _ q i _ M0 h (fun j => ?_))
      rw [put_bit _ hM s t ht8, hst, hv]
theorem changed_f {l : List Int} (hb : ∀ x ∈ l, 0 ≤ x ∧ x < 256) (hl : l.length < 2 ^ 36) (q k : Nat) (bs : List Bool) (hq : q + bs.length ≤ 8 * l.length) (hk : bs.length < k) : laws_changed.f k l (q : Int) bs = some (listOf (bytesB (turned (DL l) q bs.length fun i => rdOf false bs (i : Int))) l.length) := by
  unfold laws_changed.f
  rw [Option.bind_some, if_pos (by simp; omega), List.nil_append]
  have e : l = listOf (DL l) l.length := (list_DL hb).symm
  have h := changed_loop l.length q bs.length bs (DL l) rfl hq hl bs.length k 0 (DL l) (by omega) hk (DL_lt hb) (fun j => by
    unfold turned
    rw [if_neg (by omega)])
  rw [← e] at h
  exact h
theorem turned_congr (M : Nat → Nat) (q n : Nat) (f g : Nat → Bool) (h : ∀ i, i < n → f i = g i) : turned M q n f = turned M q n g := by
  funext j
  unfold turned
  by_cases c : q ≤ j ∧ j < q + n
  · rw [if_pos c, if_pos c, h _ (by omega)]
  · rw [if_neg c, if_neg c]
theorem same_f (l : List Int) : laws_same.f l l = some true := by
  unfold laws_same.f
  simp
/-- Bits, each other one. -/
def notsOf (D : Nat → Nat) (p n : Nat) : List Bool := (List.range n).map fun i => !bitD D (p + i)
theorem notsOf_len (D : Nat → Nat) (p n : Nat) : (notsOf D p n).length = n := by simp [notsOf]
theorem rd_nots (D : Nat → Nat) (p n i : Nat) (hi : i < n) : rdOf false (notsOf D p n) (i : Int) = !bitD D (p + i) := by
  have e : rdOf false (notsOf D p n) (i : Int) = (notsOf D p n).getD i false := by first | rfl | simp [rdOf]
  rw [e, List.getD_eq_getElem?_getD, notsOf, List.getElem?_map, List.getElem?_range hi]
  rfl
theorem copy_loop {l0 l3 : List Int} (y0 : ∀ x ∈ l0, 0 ≤ x ∧ x < 256) (y3 : ∀ x ∈ l3, 0 ≤ x ∧ x < 256) (g0 : l0.length < 2 ^ 36) (g3 : l3.length < 2 ^ 36) (p q n : Nat) (hp : p + n ≤ 8 * l0.length) (hq : q + n ≤ 8 * l3.length) : ∀ (d k i : Nat), i + d = n → n + d + 1 < k → laws_FnCopyBits.l0 k l0 (p : Int) (n : Int) l3 (q : Int) (bitsOf (DL l0) p n) (notsOf (DL l0) p i) (bitsOf (DL l0) p n) (n : Int) (i : Int) = some true
  | d, 0, i, _, hk => absurd hk (by omega)
  | 0, k + 1, i, hi, hk => by
    obtain rfl : i = n := by omega
    rw [laws_FnCopyBits.l0, if_neg (by omega)]
    unfold impl_CopyBits.f impl_InvertBits.f
    have hA : copyArgs l0 (p : Int) (i : Int) l3 (q : Int) := ⟨by omega, by omega, by omega, by omega, by omega, g0, g3, y0, y3⟩
    rw [if_pos hA, if_pos hA, Option.bind_some, Int.toNat_natCast, Int.toNat_natCast, Int.toNat_natCast,
      changed_f y3 g3 q k _ (by rw [bitsOf_len]; omega) (by rw [bitsOf_len]; omega), Option.bind_some, bitsOf_len,
      turned_congr (DL l3) q i (fun i_1 => rdOf false (bitsOf (DL l0) p i) (i_1 : Int)) (fun j => bitD (DL l0) (p + j)) (fun j hj => rd_bits _ p i j hj)]
    have s1 := same_f (listOf (bytesB (turned (DL l3) q i fun j => bitD (DL l0) (p + j))) l3.length)
    unfold listOf at s1 ⊢
    rw [s1, Option.bind_some, if_pos rfl, Option.bind_some, changed_f y3 g3 q k _ (by rw [notsOf_len]; omega) (by rw [notsOf_len]; omega), Option.bind_some, notsOf_len,
      turned_congr (DL l3) q i (fun i_1 => rdOf false (notsOf (DL l0) p i) (i_1 : Int)) (fun j => !bitD (DL l0) (p + j)) (fun j hj => rd_nots _ p i j hj)]
    have s2 := same_f (listOf (bytesB (turned (DL l3) q i fun j => !bitD (DL l0) (p + j))) l3.length)
    unfold listOf at s2 ⊢
    rw [s2, Option.bind_some]
  | d + 1, k + 1, i, hi, hk => by
    have e4 : wrap64 ((i : Int) + 1) = ((i + 1 : Nat) : Int) := by rw [w64_id _ (by omega) (by omega)]; omega
    have e5 : notsOf (DL l0) p i ++ [!(rdOf false (bitsOf (DL l0) p n) (i : Int))] = notsOf (DL l0) p (i + 1) := by
      clear e4
      rw [rd_bits _ p n i (by omega)]
      unfold notsOf
      rw [List.range_succ, List.map_append]
      rfl
    rw [laws_FnCopyBits.l0, e4, e5, bitsOf_len, notsOf_len]
    clear e4 e5
    rw [if_pos (by omega), if_pos (by omega), if_pos (by omega), if_pos (by omega)]
    exact copy_loop y0 y3 g0 g3 p q n hp hq d k (i + 1) (by omega) (by omega)
theorem copyBits_pure : laws_FnCopyBits.Pure := by
  intro l0 a1 a2 l3 a4 h0 h0' w0 w1 w2 h3 h3' w3 w4
  have y0 := byte_wf w0
  have y3 := byte_wf w3
  refine ⟨2 * a2.toNat + 20, ?_⟩
  unfold laws_FnCopyBits.f
  have stop : ∀ k, laws_FnCopyBits.j0 (k + 1) l0 a1 a2 l3 a4 true = some true := fun k => by rw [laws_FnCopyBits.j0, if_pos rfl]
  have stop1 : ∀ k, laws_FnCopyBits.j1 (k + 1) l0 a1 a2 l3 a4 true = some true := fun k => by rw [laws_FnCopyBits.j1, if_pos rfl]
  split
  · exact stop _
  · by_cases hz : (l3.length : Int) > 2147483647
    · rw [decide_eq_true hz]
      exact stop _
    · rw [decide_eq_false hz, laws_FnCopyBits.j0, if_neg (by decide)]
      rcases within_some l0 a1 a2 with ⟨e0, g0, g1, g2, s0⟩ | e0
      · rw [e0, Option.bind_some, if_pos rfl]
        rcases within_some l3 a4 a2 with ⟨e3, g3, g4, _, s3⟩ | e3
        · rw [e3, Option.bind_some, show (!true) = false from rfl]
          obtain ⟨p, rfl⟩ := Int.eq_ofNat_of_zero_le g1
          obtain ⟨n, rfl⟩ := Int.eq_ofNat_of_zero_le g2
          obtain ⟨q, rfl⟩ := Int.eq_ofNat_of_zero_le g4
          rw [laws_FnCopyBits.j1, if_neg (by decide), Int.toNat_natCast, list_bits y0 (by omega) p n _ (by omega) (by omega), Option.bind_some, bitsOf_len]
          exact copy_loop y0 y3 (by omega) (by omega) p q n (by omega) (by omega) n _ 0 (by omega) (by omega)
        · rw [e3, Option.bind_some]
          exact stop1 (2 * a2.toNat + 18)
      · rw [e0, Option.bind_some, if_neg (by decide)]
        exact stop1 (2 * a2.toNat + 18)
end Go.Proofs.YthgbfmcicpmepaaDoor.V
