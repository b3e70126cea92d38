/- bitutil.transferBitmap at places of whole bytes. -/
import Derived.Test.YthgbfmcicpmepaaDoorBX1
import Derived.Laws.IdiomCopy
namespace Go.Proofs.YthgbfmcicpmepaaDoor.V
open Go.RowKit Go.Proofs.YthgbfmcicpmepaaDoor.B Go.Proofs.YthgbfmcicpmepaaDoorW.PrintWords Go.Proofs.YthgbfmcicpmepaaDoorW.PrintLast Go.Proofs.YthgbfmcicpmepaaDoorW.PrintMore
set_option linter.unusedVariables false
set_option linter.unusedSimpArgs false
/-- Bytes as cells. -/
def rowV (D : Nat → Nat) : Nat → Nat → List Value
  | _, 0 => []
  | off, k + 1 => .int .u8 (D off : Int) :: rowV D (off + 1) k
theorem rowV_len (D : Nat → Nat) : ∀ k off, (rowV D off k).length = k
  | 0, _ => rfl
  | k + 1, off => by rw [rowV, List.length_cons, rowV_len D k]
theorem rowV_get (D : Nat → Nat) : ∀ k off j v, (rowV D off k)[j]? = some v → j < k ∧ v = .int .u8 (D (off + j) : Int)
  | 0, _, j, v, h => by simp [rowV] at h
  | k + 1, off, 0, v, h => by simp [rowV] at h; exact ⟨by omega, h.symm⟩
  | k + 1, off, j + 1, v, h => by
    simp only [rowV, List.getElem?_cons_succ] at h
    obtain ⟨h1, h2⟩ := rowV_get D k (off + 1) j v h
    exact ⟨by omega, by rw [h2, show off + 1 + j = off + (j + 1) by omega]⟩
theorem rowV_one (D : Nat → Nat) : ∀ k off, ∀ v ∈ rowV D off k, v.oneCell' = true
  | 0, _, v, h => by simp [rowV] at h
  | k + 1, off, v, h => by
    rw [rowV, List.mem_cons] at h
    rcases h with rfl | h
    · rfl
    · exact rowV_one D k (off + 1) v h
theorem Own.puts {b C L : Nat} (D : Nat → Nat) (hD : ∀ j, D j < 256) : ∀ (k off s : Nat) (w : World) (M : Nat → Nat), Own w b C L M → ∃ M', Own (w.setCells b s (rowV D off k)) b C L M' ∧ Tch (fun j => j = b) w (w.setCells b s (rowV D off k)) ∧ ∀ j, M' j = if s ≤ j ∧ j < s + k then D (off + (j - s)) else M j
  | 0, off, s, w, M, h => ⟨M, h, Tch.refl _ _, fun j => by rw [if_neg (by omega)]⟩
  | k + 1, off, s, w, M, h => by
    obtain ⟨M', h1, h2, h3⟩ := Own.puts D hD k (off + 1) (s + 1) _ _ (h.put s (D off) (hD off))
    refine ⟨M', h1, (tset (Tch.refl _ _)).trans h2, fun j => ?_⟩
    rw [h3 j]
    unfold put1D
    by_cases hj : j = s
    · subst hj
      rw [if_neg (by omega), if_pos rfl, if_pos (by omega), Nat.sub_self, Nat.add_zero]
    · by_cases hj2 : s + 1 ≤ j ∧ j < s + 1 + k
      · rw [if_pos hj2, if_pos (by omega)]
        congr 1
        omega
      · rw [if_neg hj2, if_neg hj, if_neg (by omega)]
/-- Whole bytes that are put somewhere. -/
theorem puts_wrote {D M M' : Nat → Nat} {off s k : Nat} (h : ∀ j, M' j = if s ≤ j ∧ j < s + k then D (off + (j - s)) else M j) : Wrote M (8 * s) (8 * k) (fun i => bitD D (8 * off + i)) M' := by
  intro j
  show bitD M' j = if 8 * s ≤ j ∧ j < 8 * s + 8 * k then bitD D (8 * off + (j - 8 * s)) else bitD M j
  unfold bitD
  rw [h (j / 8)]
  by_cases hj : s ≤ j / 8 ∧ j / 8 < s + k
  · rw [if_pos hj, if_pos (by omega), show (8 * off + (j - 8 * s)) / 8 = off + (j / 8 - s) by omega, show (8 * off + (j - 8 * s)) % 8 = j % 8 by omega]
  · rw [if_neg hj, if_neg (by omega)]
theorem clr8 (x r : Nat) (hx : x < 256) (hr : r ≤ 8) : bits .and .u8 (x : Int) ((255 - (2 ^ r - 1) : Nat) : Int) = ((2 ^ r * (x / 2 ^ r) : Nat) : Int) := by
  rw [and_k .u8 x _ hx (by show _ < 2 ^ 8; omega)]
  show IntKind.u8.wrap ((x &&& (2 ^ 8 - 1 - (2 ^ r - 1)) : Nat) : Int) = _
  rw [mask_and x r 8 hx hr, wrap_u8 _ (Nat.lt_of_le_of_lt (Nat.mul_div_le _ _) hx)]
/-- The last byte: its low bits are another's. -/
theorem last_upd (M : Nat → Nat) (s r x : Nat) (hM : M s < 256) (hr : r ≤ 8) (hz : x % 2 ^ r + 2 ^ r * (M s / 2 ^ r) < 256) : Upd M (8 * s) r x (put1D M s (x % 2 ^ r + 2 ^ r * (M s / 2 ^ r))) := by
  intro j
  rw [put1D_bit _ _ _ _ hz]
  by_cases h8 : 8 * s ≤ j ∧ j < 8 * s + 8
  · rw [if_pos h8, Nat.add_comm, Nat.testBit_two_pow_mul_add _ (Nat.mod_lt _ (Nat.two_pow_pos r))]
    by_cases hj : j - 8 * s < r
    · rw [if_pos hj, if_pos (by omega), Nat.testBit_mod_two_pow]
      simp [hj]
    · rw [if_neg hj, if_neg (by omega), Nat.testBit_div_two_pow]
      unfold bitD
      rw [show j - 8 * s - r + r = j % 8 by omega, show j / 8 = s by omega]
  · rw [if_neg h8, if_neg (by omega)]
theorem run_copy_ {w : World} {b C L : Nat} {M : Nat → Nat} (hO : Own w b C L M) (B O m : Nat) (D : Nat → Nat) (hD : Dat w B O m D) (s0 s1 k dl dc sc : Nat) (h1 : s0 + k ≤ m) (h2 : s1 + k ≤ L) (h3 : k ≤ dl) :
    (Builtin.copy_ #[22, 22] 3 #[.slice (some ⟨b, s1, none⟩) dl dc, .slice (some ⟨B, O + s0, none⟩) k sc]).run Tryd.prog w = .ok (goInt k) (w.setCells b s1 (rowV D s0 k)) := by
  have h := run_copy_cells (P := Tryd.prog) w 22 22 3 5 b s1 dl dc ⟨B, O + s0, none⟩ k sc (rowV D s0 k) Tryd.underlying22 (by kernel_rfl) (by rw [rowV_len]; exact (Nat.min_eq_left h3).symm) (fun j v hj => by
      obtain ⟨hk, rfl⟩ := rowV_get D k s0 j v hj
      rw [add_none]
      exact hD.at_ (s0 + j) _ (by omega) (by omega)) (fun j hj => by
      rw [rowV_len] at hj
      rw [hO.cell (s1 + j) (by omega)]
      rfl) (fun j _ => hO.frozen _) (rowV_one D k s0)
  rw [rowV_len] at h
  exact h
set_option maxHeartbeats 8000000 in
set_option maxRecDepth 100000 in
theorem tr47e (B O m c b C L p q n : Nat) (D M : Nat → Nat) (w : World) (hD : Dat w B O m D) (hO : Own w b C L M) (hBb : B ≠ b) (hc : m ≤ c) (hL : L ≤ C) (hn : 0 < n) (hp : p + n ≤ 8 * m) (hq : q + n ≤ 8 * L) (hm : m < 2 ^ 36) (hE : L < 2 ^ 40) (u0 : (p : Int) % 8 = 0) (u2 : (q : Int) % 8 = 0) :
    Calls Tryd.prog 47 #[.int .i8 0, .slice (some ⟨B, O, none⟩) m c, .int .i64 (p : Int), .int .i64 (n : Int), .slice (some ⟨b, 0, none⟩) L C, .int .i64 (q : Int)] w fun e w' => e = .returned (.tuple #[]) ∧ Tch (fun k => k = b) w w' ∧ ∃ M', Own w' b C L M' ∧ Wrote M q n (fun i => bitD D (p + i)) M' := by
  obtain ⟨s0, hs0⟩ : ∃ s, s = p / 8 := ⟨_, rfl⟩
  obtain ⟨s1, hs1⟩ : ∃ s, s = q / 8 := ⟨_, rfl⟩
  obtain ⟨nb, hnb⟩ : ∃ k, k = (n + 7) / 8 := ⟨_, rfl⟩
  obtain ⟨r, hr⟩ : ∃ k, k = n - 8 * (nb - 1) := ⟨_, rfl⟩
  obtain ⟨f, hf⟩ : ∃ f : Nat → Bool, f = fun i => bitD D (p + i) := ⟨_, rfl⟩
  rw [← hf]
  obtain ⟨T, hT⟩ : ∃ T : Nat, T = 2 ^ r := ⟨_, rfl⟩
  have hT1 : T ≤ 256 := by
    have : 2 ^ r ≤ 2 ^ 8 := Nat.pow_le_pow_right (by omega) (by omega)
    omega
  have hT2 : 2 ≤ T := by
    have : 2 ^ 1 ≤ 2 ^ r := Nat.pow_le_pow_right (by omega) (by omega)
    omega
  have eT : (2 : Int) ^ r = (T : Int) := by rw [hT, Int.natCast_pow]; rfl
  have e0 : (p : Int) / 8 = (s0 : Int) := by omega
  have e1 : (q : Int) / 8 = (s1 : Int) := by omega
  have l0 : (s0 : Int) ≤ (m : Int) := by omega
  have l1 : (s1 : Int) ≤ (L : Int) := by omega
  have l2 : c ≠ s0 := by omega
  have l3 : C ≠ s1 := by omega
  have l4 : s0 ≤ c := by omega
  have l5 : s1 ≤ C := by omega
  have kn : ¬ (n : Int) = 0 := by omega
  have kr1 : (nb : Int) * 8 - (n : Int) = ((8 - r : Nat) : Int) := by omega
  obtain ⟨tr, htr⟩ : ∃ tr, tr = 8 - r := ⟨_, rfl⟩
  rw [← htr] at kr1
  have kr2 : (8 : Int) - (tr : Int) = (r : Int) := by omega
  have lr : r ≤ 8 := by omega
  have ltr : tr < 8 := by omega
  have lnb : nb < 2 ^ 40 := by omega
  have N34 : ∀ W, Calls Tryd.prog 34 #[.int .i64 (n : Int)] W fun e w' => e = .returned (.int .i64 (nb : Int)) ∧ W = w' := fun W => by
    rw [hnb]
    exact by34 n W (by omega)
  have HF := Lib.hid (And.intro hD (And.intro hO (And.intro hs0 (And.intro hs1 (And.intro hnb (And.intro hr (And.intro hp (And.intro hq (And.intro hc (And.intro hL (And.intro hn (And.intro hT hf))))))))))))
  clear hD hO hs0 hs1 hnb hr hp hq hc hL hn hf htr hT
  go_enter Tryd.func47, Tryd.ntmps47
  go_wp2_with (go_at_call 34; fail)
  refine (N34 w).mono ?_
  rintro e w1 ⟨rfl, rfl⟩
  clear N34
  obtain ⟨k, hk⟩ : ∃ k, k = nb - 1 := ⟨_, rfl⟩
  obtain ⟨mk, hmk⟩ : ∃ mk, mk = T - 1 := ⟨_, rfl⟩
  have emk : ((T : Int) % 256 - 1) % 256 = (mk : Int) := by omega
  obtain ⟨hD, hO, hs0, hs1, hnb, hr, hp, hq, hc, hL, hn, hT, hf⟩ := HF.out
  have ek : (nb : Int) - 1 = (k : Int) := by omega
  have lk1 : (k : Int) < ((m - s0 : Nat) : Int) := by omega
  have lk2 : (k : Int) < ((L - s1 : Nat) : Int) := by omega
  have lk3 : (k : Int) ≤ ((c - s0 : Nat) : Int) := by omega
  have HK := Lib.hid (And.intro hk (And.intro hmk (And.intro lk1 (And.intro lk2 lk3))))
  clear hk hmk lk1 lk2 lk3 hD hO hs0 hs1 hnb hr hp hq hc hL hn hT hf
  go_upto_region 32 with fail
  rw [emk]
  refine wp_at ?_
  intro w1 hw1
  obtain ⟨w2, M2, O2, T2, W2, hcp⟩ : ∃ w2, ∃ M2, Own w2 b C L M2 ∧ Tch (fun k => k = b) w w2 ∧ Wrote M q (8 * k) f M2 ∧ (Builtin.copy_ #[22, 22] 3 #[.slice (some ⟨b, s1, none⟩) (L - s1) (C - s1), .slice (some ⟨B, O + s0, none⟩) k (c - s0)]).run Tryd.prog w1 = .ok (goInt k) w2 := by
    obtain ⟨hk, hmk, lk1, lk2, lk3⟩ := HK.out
    obtain ⟨hD, hO, hs0, hs1, hnb, hr, hp, hq, hc, hL, hn, hT, hf⟩ := HF.out
    subst hw1
    obtain ⟨M2, h1, h2, h3⟩ := Own.puts D hD.byte k s0 s1 _ _ hO
    refine ⟨_, M2, h1, h2, ?_, run_copy_ hO B O m D hD s0 s1 k (L - s1) (C - s1) (c - s0) (by omega) (by omega) (by omega)⟩
    have := puts_wrote h3
    rw [show 8 * s1 = q by omega, show 8 * s0 = p by omega, ← hf] at this
    exact this
  clear hw1
  obtain ⟨hk, hmk, lk1, lk2, lk3⟩ := HK.out
  obtain ⟨hD, hO, hs0, hs1, hnb, hr, hp, hq, hc, hL, hn, hT, hf⟩ := HF.out
  have cD : w2.cell? ⟨B, O + s0 + k, none⟩ = some (.int .u8 (D (s0 + k) : Int)) := (hD.tch T2 hBb).at_ (s0 + k) _ (by omega) (by omega)
  have cM := O2.cell (s1 + k) (by omega)
  have fM := O2.frozen (s1 + k)
  have bD := hD.byte (s0 + k)
  have bM := O2.byte (s1 + k)
  obtain ⟨dk, hdk⟩ : ∃ x, x = D (s0 + k) := ⟨_, rfl⟩
  obtain ⟨x, hx⟩ : ∃ x, x = dk := ⟨_, rfl⟩
  obtain ⟨v0, hv0⟩ : ∃ v, v = M2 (s1 + k) := ⟨_, rfl⟩
  rw [← hdk] at cD bD
  rw [← hv0] at cM bM
  have hx8 : x < 256 := by omega
  have p2 : x % 2 ^ r < 2 ^ r := Nat.mod_lt _ (Nat.two_pow_pos r)
  have hz : x % 2 ^ r + 2 ^ r * (v0 / 2 ^ r) < 256 := by
    have ln : v0 / 2 ^ r < 2 ^ (8 - r) := by
      rw [Nat.div_lt_iff_lt_mul (Nat.two_pow_pos _), ← Nat.pow_add, show 8 - r + r = 8 by omega]
      exact bM
    have : 2 ^ r * (v0 / 2 ^ r + 1) ≤ 2 ^ r * 2 ^ (8 - r) := Nat.mul_le_mul_left _ ln
    rw [← Nat.pow_add, show r + (8 - r) = 8 by omega, Nat.mul_add] at this
    omega
  obtain ⟨z1, hz1⟩ : ∃ z, z = 2 ^ r * (v0 / 2 ^ r) := ⟨_, rfl⟩
  obtain ⟨z2, hz2⟩ : ∃ z, z = x % 2 ^ r + 2 ^ r * (v0 / 2 ^ r) := ⟨_, rfl⟩
  obtain ⟨y, hy⟩ : ∃ y, y = x % 2 ^ r := ⟨_, rfl⟩
  obtain ⟨nk, hnk⟩ : ∃ y, y = 255 - mk := ⟨_, rfl⟩
  have e3 : bits .xor .u8 (if IntKind.u8.signed = true then -1 else IntKind.u8.max) (mk : Int) = (nk : Int) := by rw [hnk]; exact xor8 mk (by omega)
  have e4 : bits .and .u8 (v0 : Int) (nk : Int) = (z1 : Int) := by
    rw [hnk, hz1, hmk, hT]
    exact clr8 v0 r bM lr
  have e5 : bits .and .u8 (x : Int) (mk : Int) = (y : Int) := by rw [hmk, hy, hT]; exact and_mask8 x r hx8 lr
  have e6 : bits .or .u8 (z1 : Int) (y : Int) = (z2 : Int) := by
    have t := or_u8 r _ _ p2 hz
    rw [hz1, hy, hz2, ← t]
    have e : ∀ a b : Int, bits .or .u8 a b = IntKind.u8.wrap (((BitVec.ofInt 8 a ||| BitVec.ofInt 8 b).toNat : Nat) : Int) := fun a b => rfl
    rw [e, e, BitVec.or_comm]
  have FIN : ∀ Z : World, Z = (w2.setCell ⟨b, s1 + k, none⟩ (.int .u8 (z1 : Int))).setCell ⟨b, s1 + k, none⟩ (.int .u8 (z2 : Int)) → Tch (fun k => k = b) w Z ∧ ∃ M', Own Z b C L M' ∧ Wrote M q n f M' := fun Z hZ => by
    have UU := last_upd M2 (s1 + k) r x (O2.byte _) lr (by rw [← hv0]; exact hz)
    rw [← hv0, ← hz2] at UU
    have e : put1D (put1D M2 (s1 + k) z1) (s1 + k) z2 = put1D M2 (s1 + k) z2 := by
      funext j
      unfold put1D
      split <;> rfl
    refine ⟨by rw [hZ]; exact tset (tset T2), _, by rw [hZ]; exact (O2.put (s1 + k) z1 (by omega)).put (s1 + k) z2 (by omega), ?_⟩
    rw [e, show n = 8 * k + r by omega]
    refine W2.more (x := x) (by rw [show q + 8 * k = 8 * (s1 + k) by omega]; exact UU) (fun i hi => ?_)
    rw [hx, hf]
    rw [hdk]
    show (D (s0 + k)).testBit i = bitD D (p + (8 * k + i))
    unfold bitD
    rw [show (p + (8 * k + i)) / 8 = s0 + k by omega, show (p + (8 * k + i)) % 8 = i by omega]
  have HFIN := Lib.hid FIN
  obtain rfl : x = dk := hx
  clear FIN hz hz1 hz2 hy hnk hk hmk hD hO hs0 hs1 hnb hr hp hq hc hL hn hT hf hdk hv0 bM bD p2 hx8 T2 O2 W2
  go_wp2
  go_end0
  exact ⟨rfl, HFIN.out _ rfl⟩
set_option maxHeartbeats 8000000 in
set_option maxRecDepth 100000 in
theorem tr47f (B O m c b C L p q n : Nat) (D M : Nat → Nat) (w : World) (hD : Dat w B O m D) (hO : Own w b C L M) (hBb : B ≠ b) (hc : m ≤ c) (hL : L ≤ C) (hn : 0 < n) (hp : p + n ≤ 8 * m) (hq : q + n ≤ 8 * L) (hm : m < 2 ^ 36) (hE : L < 2 ^ 40) (u0 : (p : Int) % 8 = 0) (u2 : (q : Int) % 8 = 0) :
    Calls Tryd.prog 47 #[.int .i8 1, .slice (some ⟨B, O, none⟩) m c, .int .i64 (p : Int), .int .i64 (n : Int), .slice (some ⟨b, 0, none⟩) L C, .int .i64 (q : Int)] w fun e w' => e = .returned (.tuple #[]) ∧ Tch (fun k => k = b) w w' ∧ ∃ M', Own w' b C L M' ∧ Wrote M q n (fun i => !bitD D (p + i)) M' := by
  obtain ⟨s0, hs0⟩ : ∃ s, s = p / 8 := ⟨_, rfl⟩
  obtain ⟨s1, hs1⟩ : ∃ s, s = q / 8 := ⟨_, rfl⟩
  obtain ⟨nb, hnb⟩ : ∃ k, k = (n + 7) / 8 := ⟨_, rfl⟩
  obtain ⟨r, hr⟩ : ∃ k, k = n - 8 * (nb - 1) := ⟨_, rfl⟩
  obtain ⟨f, hf⟩ : ∃ f : Nat → Bool, f = fun i => !bitD D (p + i) := ⟨_, rfl⟩
  rw [← hf]
  obtain ⟨T, hT⟩ : ∃ T : Nat, T = 2 ^ r := ⟨_, rfl⟩
  have hT1 : T ≤ 256 := by
    have : 2 ^ r ≤ 2 ^ 8 := Nat.pow_le_pow_right (by omega) (by omega)
    omega
  have hT2 : 2 ≤ T := by
    have : 2 ^ 1 ≤ 2 ^ r := Nat.pow_le_pow_right (by omega) (by omega)
    omega
  have eT : (2 : Int) ^ r = (T : Int) := by rw [hT, Int.natCast_pow]; rfl
  have e0 : (p : Int) / 8 = (s0 : Int) := by omega
  have e1 : (q : Int) / 8 = (s1 : Int) := by omega
  have l0 : (s0 : Int) ≤ (m : Int) := by omega
  have l1 : (s1 : Int) ≤ (L : Int) := by omega
  have l2 : c ≠ s0 := by omega
  have l3 : C ≠ s1 := by omega
  have l4 : s0 ≤ c := by omega
  have l5 : s1 ≤ C := by omega
  have kn : ¬ (n : Int) = 0 := by omega
  have kr1 : (nb : Int) * 8 - (n : Int) = ((8 - r : Nat) : Int) := by omega
  obtain ⟨tr, htr⟩ : ∃ tr, tr = 8 - r := ⟨_, rfl⟩
  rw [← htr] at kr1
  have kr2 : (8 : Int) - (tr : Int) = (r : Int) := by omega
  have lr : r ≤ 8 := by omega
  have ltr : tr < 8 := by omega
  have lnb : nb < 2 ^ 40 := by omega
  have N34 : ∀ W, Calls Tryd.prog 34 #[.int .i64 (n : Int)] W fun e w' => e = .returned (.int .i64 (nb : Int)) ∧ W = w' := fun W => by
    rw [hnb]
    exact by34 n W (by omega)
  have HF := Lib.hid (And.intro hD (And.intro hO (And.intro hs0 (And.intro hs1 (And.intro hnb (And.intro hr (And.intro hp (And.intro hq (And.intro hc (And.intro hL (And.intro hn (And.intro hT hf))))))))))))
  clear hD hO hs0 hs1 hnb hr hp hq hc hL hn hf htr hT
  go_enter Tryd.func47, Tryd.ntmps47
  go_wp2_with (go_at_call 34; fail)
  refine (N34 w).mono ?_
  rintro e w1 ⟨rfl, rfl⟩
  clear N34
  obtain ⟨k, hk⟩ : ∃ k, k = nb - 1 := ⟨_, rfl⟩
  obtain ⟨mk, hmk⟩ : ∃ mk, mk = T - 1 := ⟨_, rfl⟩
  have emk : ((T : Int) % 256 - 1) % 256 = (mk : Int) := by omega
  obtain ⟨hD, hO, hs0, hs1, hnb, hr, hp, hq, hc, hL, hn, hT, hf⟩ := HF.out
  have ek : (nb : Int) - 1 = (k : Int) := by omega
  have lk1 : (k : Int) < ((m - s0 : Nat) : Int) := by omega
  have lk2 : (k : Int) < ((L - s1 : Nat) : Int) := by omega
  have lk3 : (k : Int) ≤ ((c - s0 : Nat) : Int) := by omega
  have HK := Lib.hid (And.intro hk (And.intro hmk (And.intro lk1 (And.intro lk2 lk3))))
  clear hk hmk lk1 lk2 lk3 hD hO hs0 hs1 hnb hr hp hq hc hL hn hT hf
  go_upto_region 26 with fail
  rw [emk]
  obtain ⟨-, -, -, -, lk3⟩ := HK.out
  go_wp2_with fail
  clear lk3
  go_loopg [108] k (fun kq v108 wr => ∃ i : Nat, v108 = .int .i64 (i : Int) ∧ Aside0 (i + kq = k ∧ Tch (fun k => k = b) w wr ∧ ∃ Mi, Own wr b C L Mi ∧ Wrote M q (8 * i) f Mi))
  case atStart => exact ⟨0, rfl, ⟨by omega, Tch.refl _ _, M, HF.out.2.1, Wrote.zero _ _ _⟩⟩
  case round =>
    obtain ⟨i, rfl, HA⟩ := hrel
    by_cases hi : i < k
    · have hi1 : (i : Int) < (k : Int) := by omega
      obtain ⟨d, x, cD, ex, cM, fM, lb, HC⟩ : ∃ d x : Nat, wr.cell? ⟨B, O + s0 + i, none⟩ = some (.int .u8 (d : Int)) ∧ bits .xor .u8 (if IntKind.u8.signed = true then -1 else IntKind.u8.max) (d : Int) = (x : Int) ∧ (wr.cell? ⟨b, s1 + i, none⟩).isSome = true ∧ wr.frozen? ⟨b, s1 + i, none⟩ = false ∧ (i : Int) < ((L - s1 : Nat) : Int) ∧ Hid (i + gk = k ∧ Tch (fun k => k = b) w (wr.setCell ⟨b, s1 + i, none⟩ (.int .u8 (x : Int))) ∧ ∃ Mi, Own (wr.setCell ⟨b, s1 + i, none⟩ (.int .u8 (x : Int))) b C L Mi ∧ Wrote M q (8 * (i + 1)) f Mi) := by
        obtain ⟨hj, bw, Mi, ow, sm⟩ := HA.out
        obtain ⟨hk, hmk, lk1, lk2, lk3⟩ := HK.out
        obtain ⟨hD, hO, hs0, hs1, hnb, hr, hp, hq, hc, hL, hn, hT, hf⟩ := HF.out
        have bd := hD.byte (s0 + i)
        refine ⟨D (s0 + i), 255 - D (s0 + i), (hD.tch bw hBb).at_ (s0 + i) _ (by omega) (by omega), xor8 _ bd, by rw [ow.cell (s1 + i) (by omega)]; rfl, ow.frozen _, by omega, Lib.hid ⟨hj, tset bw, _, ow.put (s1 + i) (255 - D (s0 + i)) (by omega), ?_⟩⟩
        rw [show 8 * (i + 1) = 8 * i + 8 by omega]
        refine sm.more (x := 255 - D (s0 + i)) (by rw [show q + 8 * i = 8 * (s1 + i) by omega]; exact put1D_upd Mi (s1 + i) _ (by omega)) (fun j hj => ?_)
        rw [inv_bit8 _ j bd hj, hf]
        show (!(D (s0 + i)).testBit j) = !bitD D (p + (8 * i + j))
        unfold bitD
        rw [show (p + (8 * i + j)) / 8 = s0 + i by omega, show (p + (8 * i + j)) % 8 = j by omega]
      obtain ⟨v0, cM⟩ := Option.isSome_iff_exists.1 cM
      clear HA hi
      go_wp2_with fail
      go_roundg (gk - 1)
      case measure => have := HC.out.1; omega
      case rel =>
        obtain ⟨hj, bw, Mi, ow, sm⟩ := HC.out
        exact ⟨i + 1, by rw [show ((i + 1 : Nat) : Int) = (i : Int) + 1 by omega], ⟨by omega, bw, Mi, ow, sm⟩⟩
    · have hi1 : ¬ (i : Int) < (k : Int) := by omega
      obtain ⟨w2, M2, hw2, O2, T2, W2⟩ : ∃ w2, ∃ M2, w2 = wr ∧ Own w2 b C L M2 ∧ Tch (fun k => k = b) w w2 ∧ Wrote M q (8 * k) f M2 := by
        obtain ⟨hj, bw, Mi, ow, sm⟩ := HA.out
        obtain rfl : i = k := by omega
        exact ⟨wr, Mi, rfl, ow, bw, sm⟩
      subst hw2
      clear HA
      obtain ⟨hk, hmk, lk1, lk2, lk3⟩ := HK.out
      obtain ⟨hD, hO, hs0, hs1, hnb, hr, hp, hq, hc, hL, hn, hT, hf⟩ := HF.out
      have cD : w2.cell? ⟨B, O + s0 + k, none⟩ = some (.int .u8 (D (s0 + k) : Int)) := (hD.tch T2 hBb).at_ (s0 + k) _ (by omega) (by omega)
      have cM := O2.cell (s1 + k) (by omega)
      have fM := O2.frozen (s1 + k)
      have bD := hD.byte (s0 + k)
      have bM := O2.byte (s1 + k)
      obtain ⟨dk, hdk⟩ : ∃ x, x = D (s0 + k) := ⟨_, rfl⟩
      obtain ⟨x, hx⟩ : ∃ x, x = 255 - dk := ⟨_, rfl⟩
      obtain ⟨v0, hv0⟩ : ∃ v, v = M2 (s1 + k) := ⟨_, rfl⟩
      rw [← hdk] at cD bD
      rw [← hv0] at cM bM
      have hx8 : x < 256 := by omega
      have p2 : x % 2 ^ r < 2 ^ r := Nat.mod_lt _ (Nat.two_pow_pos r)
      have hz : x % 2 ^ r + 2 ^ r * (v0 / 2 ^ r) < 256 := by
        have ln : v0 / 2 ^ r < 2 ^ (8 - r) := by
          rw [Nat.div_lt_iff_lt_mul (Nat.two_pow_pos _), ← Nat.pow_add, show 8 - r + r = 8 by omega]
          exact bM
        have : 2 ^ r * (v0 / 2 ^ r + 1) ≤ 2 ^ r * 2 ^ (8 - r) := Nat.mul_le_mul_left _ ln
        rw [← Nat.pow_add, show r + (8 - r) = 8 by omega, Nat.mul_add] at this
        omega
      obtain ⟨z1, hz1⟩ : ∃ z, z = 2 ^ r * (v0 / 2 ^ r) := ⟨_, rfl⟩
      obtain ⟨z2, hz2⟩ : ∃ z, z = x % 2 ^ r + 2 ^ r * (v0 / 2 ^ r) := ⟨_, rfl⟩
      obtain ⟨y, hy⟩ : ∃ y, y = x % 2 ^ r := ⟨_, rfl⟩
      obtain ⟨nk, hnk⟩ : ∃ y, y = 255 - mk := ⟨_, rfl⟩
      have e3 : bits .xor .u8 (if IntKind.u8.signed = true then -1 else IntKind.u8.max) (mk : Int) = (nk : Int) := by rw [hnk]; exact xor8 mk (by omega)
      have e4 : bits .and .u8 (v0 : Int) (nk : Int) = (z1 : Int) := by
        rw [hnk, hz1, hmk, hT]
        exact clr8 v0 r bM lr
      have e5 : bits .and .u8 (x : Int) (mk : Int) = (y : Int) := by rw [hmk, hy, hT]; exact and_mask8 x r hx8 lr
      have e6 : bits .or .u8 (z1 : Int) (y : Int) = (z2 : Int) := by
        have t := or_u8 r _ _ p2 hz
        rw [hz1, hy, hz2, ← t]
        have e : ∀ a b : Int, bits .or .u8 a b = IntKind.u8.wrap (((BitVec.ofInt 8 a ||| BitVec.ofInt 8 b).toNat : Nat) : Int) := fun a b => rfl
        rw [e, e, BitVec.or_comm]
      have FIN : ∀ Z : World, Z = (w2.setCell ⟨b, s1 + k, none⟩ (.int .u8 (z1 : Int))).setCell ⟨b, s1 + k, none⟩ (.int .u8 (z2 : Int)) → Tch (fun k => k = b) w Z ∧ ∃ M', Own Z b C L M' ∧ Wrote M q n f M' := fun Z hZ => by
        have UU := last_upd M2 (s1 + k) r x (O2.byte _) lr (by rw [← hv0]; exact hz)
        rw [← hv0, ← hz2] at UU
        have e : put1D (put1D M2 (s1 + k) z1) (s1 + k) z2 = put1D M2 (s1 + k) z2 := by
          funext j
          unfold put1D
          split <;> rfl
        refine ⟨by rw [hZ]; exact tset (tset T2), _, by rw [hZ]; exact (O2.put (s1 + k) z1 (by omega)).put (s1 + k) z2 (by omega), ?_⟩
        rw [e, show n = 8 * k + r by omega]
        refine W2.more (x := x) (by rw [show q + 8 * k = 8 * (s1 + k) by omega]; exact UU) (fun i hi => ?_)
        rw [hx, hf]
        rw [inv_bit8 dk i bD (by omega), hdk]
        show (!(D (s0 + k)).testBit i) = !bitD D (p + (8 * k + i))
        unfold bitD
        rw [show (p + (8 * k + i)) / 8 = s0 + k by omega, show (p + (8 * k + i)) % 8 = i by omega]
      have HFIN := Lib.hid FIN
      have e7 : bits .xor .u8 (if IntKind.u8.signed = true then -1 else IntKind.u8.max) (dk : Int) = (x : Int) := by rw [hx]; exact xor8 dk bD
      clear FIN hz hz1 hz2 hy hnk hk hmk lk3 hD hO hs0 hs1 hnb hr hp hq hc hL hn hT hf hdk hx hv0 bM bD p2 hx8 T2 O2 W2
      go_wp2
      go_end0
      exact ⟨rfl, HFIN.out _ rfl⟩
end Go.Proofs.YthgbfmcicpmepaaDoor.V
