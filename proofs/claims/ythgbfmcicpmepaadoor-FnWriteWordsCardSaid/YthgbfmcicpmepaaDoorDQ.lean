/- The plain law of FnWriteWords. -/
import Derived.Test.YthgbfmcicpmepaaDoorBV6
namespace Go.Proofs.YthgbfmcicpmepaaDoor.V
open Go.RowKit Go.Proofs.YthgbfmcicpmepaaDoor.B Go.Proofs.YthgbfmcicpmepaaDoorW.PrintWords Go.Proofs.YthgbfmcicpmepaaDoorW.PrintLast Go.Proofs.YthgbfmcicpmepaaDoorW.PrintMore
set_option linter.unusedVariables false
set_option linter.unusedSimpArgs false
theorem shl64_fin : ∀ k : Fin 64, shl .u64 1 (k.val : Int) = ((2 ^ k.val * 1 : Nat) : Int) := by decide +kernel
theorem shl8_fin : ∀ k : Fin 8, shl .u8 1 (k.val : Int) = ((2 ^ k.val * 1 : Nat) : Int) := by decide +kernel
/-- The list's bits. -/
def FB (l : List Bool) (i : Nat) : Bool := rdOf false l (i : Int)
def wsOf (f : Nat → Bool) (n : Nat) : List Int := (List.range n).map fun i => (pkb f (64 * i) 64 : Int)
def bsOf (f : Nat → Bool) (a t n : Nat) : List Int := (List.range n).map fun j => (pkb f (a + 8 * j) (min 8 (t - 8 * j)) : Int)
def vsOf (t n : Nat) : List Int := (List.range n).map fun j => ((min 8 (t - 8 * j) : Nat) : Int)
theorem pkb_step (f : Nat → Bool) (p i : Nat) : pkb f p (i + 1) = if f (p + i) = true then pkb f p i + 2 ^ i * 1 else pkb f p i := by
  rw [pkb]
  cases f (p + i) <;> simp
theorem pkb_congr (f g : Nat → Bool) (p q : Nat) : ∀ n, (∀ i, i < n → f (p + i) = g (q + i)) → pkb f p n = pkb g q n
  | 0, _ => rfl
  | n + 1, h => by
    rw [pkb, pkb, pkb_congr f g p q n (fun i hi => h i (by omega)), h n (by omega)]
/-- The inner loop: a word's bits. -/
theorem word_loop (l0 : List Int) (a1 : Int) (l2 : List Bool) (x7 x8 x9 : List Int) (at_ : Nat) (ha : at_ + 64 ≤ l2.length) (hn : l2.length < 2 ^ 40) (hx : x7.length < 2 ^ 40) : ∀ (d k i : Nat), i + d = 64 → laws_FnWriteWords.l1 (k + d + 1) l0 a1 l2 x7 x8 x9 (at_ : Int) (pkb (FB l2) at_ i : Int) (i : Int) = laws_FnWriteWords.l0 k l0 a1 l2 (x7 ++ [(pkb (FB l2) at_ 64 : Int)]) x8 x9 ((at_ + 64 : Nat) : Int)
  | 0, k, i, hi => by
    obtain rfl : i = 64 := by omega
    have e : wrap64 ((at_ : Int) + 64) = ((at_ + 64 : Nat) : Int) := by rw [w64_id _ (by omega) (by omega)]; omega
    rw [Nat.add_zero, laws_FnWriteWords.l1, if_neg (by clear e; omega), if_pos (by clear e; omega), e]
  | d + 1, k, i, hi => by
    have e0 : wrap64 ((at_ : Int) + (i : Int)) = ((at_ + i : Nat) : Int) := by rw [w64_id _ (by omega) (by omega)]; omega
    have e1 : wrap64 ((i : Int) + 1) = ((i + 1 : Nat) : Int) := by clear e0; rw [w64_id _ (by omega) (by omega)]; omega
    have hl := pkb_lt (FB l2) at_ i
    have hl2 := pkb_lt (FB l2) at_ (i + 1)
    have hp : 2 ^ (i + 1) ≤ 2 ^ 64 := Nat.pow_le_pow_right (by clear e0 e1; omega) (by clear e0 e1; omega)
    have hi64 : i < 64 := by clear e0 e1; omega
    have hs := pkb_step (FB l2) at_ i
    have e2 := shl64_fin ⟨i, hi64⟩
    simp only at e2
    rw [show k + (d + 1) + 1 = (k + d + 1) + 1 by clear e0 e1; omega, laws_FnWriteWords.l1, e0, e1, e2]
    clear e0 e1 e2
    rw [if_pos (by omega), if_pos (by omega), if_pos (by omega)]
    have hb : rdOf false l2 ((at_ + i : Nat) : Int) = FB l2 (at_ + i) := rfl
    rw [hb]
    cases hv : FB l2 (at_ + i) with
    | true =>
      rw [hv, if_pos rfl] at hs
      rw [if_pos rfl, if_pos (by omega), or_u64 i _ 1 hl (by omega), ← hs]
      exact word_loop l0 a1 l2 x7 x8 x9 at_ ha hn hx d k (i + 1) (by omega)
    | false =>
      rw [hv, if_neg (by decide)] at hs
      rw [if_neg (by decide), ← hs]
      exact word_loop l0 a1 l2 x7 x8 x9 at_ ha hn hx d k (i + 1) (by omega)
/-- Up to eight bits in one byte. -/
theorem pack_loop (l : List Bool) (m : Nat) (hm : l.length = m) (h8 : m ≤ 8) : ∀ (d k i : Nat), i + d = m → d < k → spec_Packed.l0 k 0 [(pkb (FB l) 0 i : Int)] l (m : Int) (i : Int) = some [(pkb (FB l) 0 m : Int)]
  | d, 0, i, _, hk => absurd hk (by omega)
  | 0, k + 1, i, hi, _ => by
    obtain rfl : i = m := by omega
    rw [spec_Packed.l0, if_neg (by omega)]
  | d + 1, k + 1, i, hi, hk => by
    have e0 : wrap64 ((0 : Int) + (i : Int)) = (i : Int) := by rw [w64_id _ (by omega) (by omega)]; omega
    have e1 : Int.tdiv (i : Int) 8 = 0 := by clear e0; rw [Int.tdiv_eq_ediv_of_nonneg (by omega)]; omega
    have e2 : Int.tmod (i : Int) 8 = (i : Int) := by clear e0; rw [Int.tmod_eq_emod_of_nonneg (by omega)]; omega
    have e3 : wrap64 0 = 0 := w64_id 0 (by decide) (by decide)
    have e4 : wrap64 ((i : Int) + 1) = ((i + 1 : Nat) : Int) := by clear e0 e3; rw [w64_id _ (by omega) (by omega)]; omega
    have hl := pkb_lt (FB l) 0 i
    have hl2 := pkb_lt (FB l) 0 (i + 1)
    have hi8 : i < 8 := by clear e0 e3 e4; omega
    have hp : 2 ^ (i + 1) ≤ 2 ^ 8 := Nat.pow_le_pow_right (by clear e0 e3 e4; omega) (by clear e0 e3 e4; omega)
    have hs := pkb_step (FB l) 0 i
    have e5 := shl8_fin ⟨i, hi8⟩
    simp only at e5
    have er : rd [(pkb (FB l) 0 i : Int)] 0 = (pkb (FB l) 0 i : Int) := by first | rfl | simp [rd]
    rw [spec_Packed.l0, e0, e1, e2, e3, e4, e5, er]
    clear e0 e1 e2 e3 e4 e5 er
    rw [if_pos (by omega), if_pos (by omega), if_pos (by omega)]
    have hb : rdOf false l (i : Int) = FB l (0 + i) := by rw [Nat.zero_add]; rfl
    rw [hb]
    cases hv : FB l (0 + i) with
    | true =>
      rw [hv, if_pos rfl] at hs
      rw [if_pos rfl, if_pos (by omega), if_pos (by simp), if_pos (by omega), or_u8 i _ 1 hl (by omega), ← hs]
      exact pack_loop l m hm h8 d k (i + 1) (by omega) (by omega)
    | false =>
      rw [hv, if_neg (by decide)] at hs
      rw [if_neg (by decide), ← hs]
      exact pack_loop l m hm h8 d k (i + 1) (by omega) (by omega)
theorem packed_f (l : List Bool) (m k : Nat) (hm : l.length = m) (h0 : 0 < m) (h8 : m ≤ 8) (hk : m < k) : spec_Packed.f k l 0 = some [(pkb (FB l) 0 m : Int)] := by
  have e0 : wrap64 ((0 : Int) + (m : Int)) = (m : Int) := by rw [w64_id _ (by omega) (by omega)]; omega
  have e1 : wrap64 ((m : Int) + 7) = (m : Int) + 7 := by clear e0; exact w64_id _ (by omega) (by omega)
  have e2 : Int.tdiv ((m : Int) + 7) 8 = 1 := by clear e0 e1; rw [Int.tdiv_eq_ediv_of_nonneg (by omega)]; omega
  have e3 : wrap64 1 = 1 := w64_id 1 (by decide) (by decide)
  unfold spec_Packed.f
  rw [hm, e0, e1, e2, e3]
  clear e0 e1 e2 e3
  rw [if_pos (by omega), if_pos (by decide)]
  exact pack_loop l m hm h8 m k 0 (by omega) hk
theorem FB_cut (l : List Bool) (a m i : Nat) (hi : i < m) : FB ((l.take (a + m)).drop a) i = FB l (a + i) := by
  have e : ∀ l : List Bool, ∀ j : Nat, FB l j = l.getD j false := fun l j => by first | rfl | simp [FB, rdOf]
  rw [e, e, List.getD_eq_getElem?_getD, List.getD_eq_getElem?_getD, List.getElem?_drop, List.getElem?_take, if_pos (by omega)]
theorem wsOf_len (f : Nat → Bool) (n : Nat) : (wsOf f n).length = n := by simp [wsOf]
theorem bsOf_len (f : Nat → Bool) (a t n : Nat) : (bsOf f a t n).length = n := by simp [bsOf]
theorem vsOf_len (t n : Nat) : (vsOf t n).length = n := by simp [vsOf]
theorem wsOf_DL (f : Nat → Bool) (n i : Nat) (hi : i < n) : DL (wsOf f n) i = pkb f (64 * i) 64 := by
  have e : rd (wsOf f n) (i : Int) = (wsOf f n).getD i 0 := by first | rfl | simp [rd]
  unfold DL
  rw [e, List.getD_eq_getElem?_getD, wsOf, List.getElem?_map, List.getElem?_range hi]
  simp
theorem bsOf_DL (f : Nat → Bool) (a t n i : Nat) (hi : i < n) : DL (bsOf f a t n) i = pkb f (a + 8 * i) (min 8 (t - 8 * i)) := by
  have e : rd (bsOf f a t n) (i : Int) = (bsOf f a t n).getD i 0 := by first | rfl | simp [rd]
  unfold DL
  rw [e, List.getD_eq_getElem?_getD, bsOf, List.getElem?_map, List.getElem?_range hi]
  simp
theorem vsOf_rd (t n i : Nat) (hi : i < n) : rd (vsOf t n) (i : Int) = ((min 8 (t - 8 * i) : Nat) : Int) := by
  have e : rd (vsOf t n) (i : Int) = (vsOf t n).getD i 0 := by first | rfl | simp [rd]
  rw [e, List.getD_eq_getElem?_getD, vsOf, List.getElem?_map, List.getElem?_range hi]
  rfl
/-- The words and the bytes hold the list's bits. -/
theorem wbit_of (f : Nat → Bool) (NW t tb i : Nat) (htb : tb = (t + 7) / 8) (hi : i < 64 * NW + t) : wbit (wsOf f NW) (bsOf f (64 * NW) t tb) i = f i := by
  unfold wbit
  rw [wsOf_len]
  by_cases h : i < 64 * NW
  · rw [if_pos h, wsOf_DL f NW (i / 64) (by omega), pkb_testBit, show 64 * (i / 64) + i % 64 = i by omega]
    simp [show i % 64 < 64 by omega]
  · rw [if_neg h]
    unfold bitD
    rw [bsOf_DL f _ t tb _ (by omega), pkb_testBit, show 64 * NW + 8 * ((i - 64 * NW) / 8) + (i - 64 * NW) % 8 = i by omega]
    simp [show (i - 64 * NW) % 8 < min 8 (t - 8 * ((i - 64 * NW) / 8)) by omega]
theorem write_fin (l0 : List Int) (l2 : List Bool) (q n NW t tb : Nat) (y0 : ∀ x ∈ l0, 0 ≤ x ∧ x < 256) (g0 : l0.length < 2 ^ 30) (hn : l2.length = n) (h0 : 0 < n) (hq : q + n ≤ 8 * l0.length)
  (hnt : n = 64 * NW + t) (htb : tb = (t + 7) / 8) (hqb : q % 8 = 0 ∨ NW = 0 ∨ 64 ≤ t) (k : Nat) (hk : n < k) : laws_FnWriteWords.l0 (k + 1) l0 (q : Int) l2 (wsOf (FB l2) NW) (bsOf (FB l2) (64 * NW) t tb) (vsOf t tb) (n : Int) = some true := by
  have hA : writeArgs l0 (q : Int) (n : Int) (wsOf (FB l2) NW) (bsOf (FB l2) (64 * NW) t tb) (vsOf t tb) := by
    unfold writeArgs
    rw [Int.toNat_natCast, Int.toNat_natCast, wsOf_len, bsOf_len, vsOf_len]
    refine ⟨by omega, by omega, by omega, by omega, y0, fun x hx => ?_, fun x hx => ?_, by omega, by omega, rfl, fun j hj => ?_, by omega⟩
    · obtain ⟨i, hi, rfl⟩ := List.mem_map.1 hx
      have := pkb_lt (FB l2) (64 * i) 64
      omega
    · obtain ⟨i, hi, rfl⟩ := List.mem_map.1 hx
      have := pkb_lt (FB l2) (64 * NW + 8 * i) (min 8 (t - 8 * i))
      have h2 : 2 ^ (min 8 (t - 8 * i)) ≤ 2 ^ 8 := Nat.pow_le_pow_right (by omega) (by omega)
      omega
    · rw [vsOf_rd t tb j hj]
      congr 2
      omega
  rw [laws_FnWriteWords.l0, hn, if_neg (by omega)]
  unfold impl_WriteWords.f
  rw [if_pos hA, Option.bind_some, Int.toNat_natCast, Int.toNat_natCast, changed_f y0 (by omega) q k l2 (by omega) (by omega), Option.bind_some, hn,
    turned_congr (DL l0) q n (wbit (wsOf (FB l2) NW) (bsOf (FB l2) (64 * NW) t tb)) (fun i => rdOf false l2 (i : Int)) (fun i hi => wbit_of (FB l2) NW t tb i htb (by omega)), same_f, Option.bind_some]
theorem bytes_loop (l0 : List Int) (l2 : List Bool) (q n NW t tb : Nat) (y0 : ∀ x ∈ l0, 0 ≤ x ∧ x < 256) (g0 : l0.length < 2 ^ 30) (hn : l2.length = n) (h0 : 0 < n) (hq : q + n ≤ 8 * l0.length)
  (hnt : n = 64 * NW + t) (htb : tb = (t + 7) / 8) (ht : t < 128) (hqa : q % 8 = 0 → t < 64) (hqb : q % 8 = 0 ∨ NW = 0 ∨ 64 ≤ t) : ∀ (d k j : Nat), j + d = tb → 2 * d + n + 20 < k → laws_FnWriteWords.l0 k l0 (q : Int) l2 (wsOf (FB l2) NW) (bsOf (FB l2) (64 * NW) t j) (vsOf t j) ((64 * NW + min (8 * j) t : Nat) : Int) = some true
  | d, 0, j, _, hk => absurd hk (by omega)
  | 0, k + 1, j, hj, hk => by
    obtain rfl : j = tb := by omega
    rw [show 64 * NW + min (8 * j) t = n by omega]
    exact write_fin l0 l2 q n NW t j y0 g0 hn h0 hq hnt htb hqb k (by omega)
  | d + 1, 1, j, _, hk => absurd hk (by omega)
  | d + 1, k + 2, j, hj, hk => by
    obtain ⟨m, hm⟩ : ∃ m, m = min 8 (t - 8 * j) := ⟨_, rfl⟩
    obtain ⟨a, ha⟩ : ∃ a, a = 64 * NW + 8 * j := ⟨_, rfl⟩
    have e0 : wrap64 ((n : Int) - (a : Int)) = ((t - 8 * j : Nat) : Int) := by rw [w64_id _ (by omega) (by omega)]; omega
    have e1 : mn 8 ((t - 8 * j : Nat) : Int) = (m : Int) := by
      clear e0
      unfold mn
      split <;> omega
    have e2 : wrap64 ((a : Int) + (m : Int)) = ((a + m : Nat) : Int) := by clear e0; rw [w64_id _ (by omega) (by omega)]; omega
    have e3 : Int.tmod (q : Int) 8 = ((q % 8 : Nat) : Int) := by clear e0 e2; rw [Int.tmod_eq_emod_of_nonneg (by omega)]; rfl
    have hlen : ((l2.take (a + m)).drop a).length = m := by
      clear e0 e2
      rw [List.length_drop, List.length_take]
      omega
    have hj3 : laws_FnWriteWords.j3 (k + 1) l0 (q : Int) l2 (wsOf (FB l2) NW) (bsOf (FB l2) (64 * NW) t j) (vsOf t j) (a : Int) false = some true := by
      rw [laws_FnWriteWords.j3, if_neg (by decide), hn, e0, e1, e2, Int.toNat_natCast, Int.toNat_natCast]
      clear e0 e1 e2 e3
      rw [if_pos (by omega), if_pos (by omega), if_pos (by omega), packed_f _ m k hlen (by omega) (by omega) (by omega), Option.bind_some, bsOf_len, vsOf_len]
      have er : rd [(pkb (FB ((l2.take (a + m)).drop a)) 0 m : Int)] 0 = (pkb (FB l2) a m : Int) := by
        rw [pkb_congr (FB ((l2.take (a + m)).drop a)) (FB l2) 0 a m (fun i hi => by rw [Nat.zero_add]; exact FB_cut l2 a m i hi)]
        first | rfl | simp [rd]
      have eb : bsOf (FB l2) (64 * NW) t j ++ [(pkb (FB l2) a m : Int)] = bsOf (FB l2) (64 * NW) t (j + 1) := by
        unfold bsOf
        rw [List.range_succ, List.map_append, hm, ha]
        rfl
      have ev : vsOf t j ++ [(m : Int)] = vsOf t (j + 1) := by
        unfold vsOf
        rw [List.range_succ, List.map_append, hm]
        rfl
      rw [er, eb, ev, if_pos (by simp), if_pos (by omega), if_pos (by omega), show a + m = 64 * NW + min (8 * (j + 1)) t by omega]
      exact bytes_loop l0 l2 q n NW t tb y0 g0 hn h0 hq hnt htb ht hqa hqb d k (j + 1) (by omega) (by omega)
    rw [show 64 * NW + min (8 * j) t = a by omega, laws_FnWriteWords.l0, hn, e0, e3]
    clear e0 e1 e2 e3
    rw [if_pos (by omega), if_neg (by omega)]
    by_cases h8 : q % 8 = 0
    · rw [if_pos (by omega), decide_eq_false (by have := hqa h8; omega)]
      exact hj3
    · rw [if_neg (by omega)]
      exact hj3
theorem words_loop (l0 : List Int) (l2 : List Bool) (q n NW t tb : Nat) (y0 : ∀ x ∈ l0, 0 ≤ x ∧ x < 256) (g0 : l0.length < 2 ^ 30) (hn : l2.length = n) (h0 : 0 < n) (hq : q + n ≤ 8 * l0.length)
  (hnt : n = 64 * NW + t) (htb : tb = (t + 7) / 8) (ht : t < 128) (hqa : q % 8 = 0 → t < 64) (hqb : q % 8 = 0 ∨ NW = 0 ∨ 64 ≤ t) (hw : ∀ i, i < NW → 128 ≤ n - 64 * i ∨ q % 8 = 0 ∧ 64 ≤ n - 64 * i) : ∀ (d k i : Nat), i + d = NW → 70 * d + 2 * tb + n + 30 < k → laws_FnWriteWords.l0 k l0 (q : Int) l2 (wsOf (FB l2) i) [] [] ((64 * i : Nat) : Int) = some true
  | 0, k, i, hi, hk => by
    obtain rfl : i = NW := by omega
    have h := bytes_loop l0 l2 q n i t tb y0 g0 hn h0 hq hnt htb ht hqa hqb tb k 0 (by omega) (by omega)
    rw [show 64 * i + min (8 * 0) t = 64 * i by omega] at h
    exact h
  | d + 1, k, i, hi, hk => by
    obtain ⟨k, rfl⟩ : ∃ k', k = k' + 67 := ⟨k - 67, by omega⟩
    have e0 : wrap64 ((n : Int) - ((64 * i : Nat) : Int)) = ((n - 64 * i : Nat) : Int) := by rw [w64_id _ (by omega) (by omega)]; omega
    have e3 : Int.tmod (q : Int) 8 = ((q % 8 : Nat) : Int) := by clear e0; rw [Int.tmod_eq_emod_of_nonneg (by omega)]; rfl
    have hj3 : laws_FnWriteWords.j3 (k + 66) l0 (q : Int) l2 (wsOf (FB l2) i) [] [] ((64 * i : Nat) : Int) true = some true := by
      clear e0 e3
      rw [laws_FnWriteWords.j3, if_pos rfl]
      have h := word_loop l0 (q : Int) l2 (wsOf (FB l2) i) [] [] (64 * i) (by omega) (by omega) (by rw [wsOf_len]; omega) 64 k 0 (by omega)
      have ew : wsOf (FB l2) i ++ [(pkb (FB l2) (64 * i) 64 : Int)] = wsOf (FB l2) (i + 1) := by
        unfold wsOf
        rw [List.range_succ, List.map_append]
        rfl
      rw [ew, show 64 * i + 64 = 64 * (i + 1) by omega] at h
      exact h.trans (words_loop l0 l2 q n NW t tb y0 g0 hn h0 hq hnt htb ht hqa hqb hw d k (i + 1) (by omega) (by omega))
    rw [laws_FnWriteWords.l0, hn, e0, e3]
    clear e0 e3
    rw [if_pos (by omega)]
    by_cases h128 : 128 ≤ n - 64 * i
    · rw [if_pos (by omega)]
      exact hj3
    · rw [if_neg (by omega)]
      rcases hw i (by omega) with h | ⟨h, h64⟩
      · omega
      · rw [if_pos (by omega), decide_eq_true (by omega)]
        exact hj3
/-- The pure statement: called with bytes, a place and bits, from some number of rounds on it tells true. -/
theorem writeWords_pure (l0 : List Int) (a1 : Int) (l2 : List Bool) (w0 : ∀ x ∈ l0, (Lit.int .u8 x).wf = true) : ∃ k, laws_FnWriteWords.f k l0 a1 l2 = some true := by
  have y0 := byte_wf w0
  refine ⟨10 * l2.length + 200, ?_⟩
  unfold laws_FnWriteWords.f
  have stop : ∀ k, laws_FnWriteWords.j0 (k + 1) l0 a1 l2 true = some true := fun k => by rw [laws_FnWriteWords.j0, if_pos rfl]
  have stop1 : ∀ k, laws_FnWriteWords.j1 (k + 1) l0 a1 l2 true = some true := fun k => by rw [laws_FnWriteWords.j1, if_pos rfl]
  split
  · exact stop _
  · by_cases hz : (l2.length : Int) > 2147483647
    · rw [decide_eq_true hz]
      exact stop _
    · rw [decide_eq_false hz, laws_FnWriteWords.j0, if_neg (by decide)]
      rcases within_some l0 a1 (l2.length : Int) with ⟨e0, g0, g1, g2, s0⟩ | e0
      · rw [e0, Option.bind_some, if_pos rfl]
        obtain ⟨q, rfl⟩ := Int.eq_ofNat_of_zero_le g1
        by_cases hl : l2.length = 0
        · rw [hl]
          exact stop1 _
        · rw [show (((l2.length : Nat) : Int) == 0) = false by rw [beq_eq_false_iff_ne]; omega, laws_FnWriteWords.j1, if_neg (by decide)]
          obtain ⟨NW, hNW⟩ : ∃ NW, NW = if q % 8 = 0 then l2.length / 64 else l2.length / 64 - 1 := ⟨_, rfl⟩
          have h := words_loop l0 l2 q l2.length NW (l2.length - 64 * NW) ((l2.length - 64 * NW + 7) / 8) y0 (by omega) rfl (by omega) (by omega) (by split at hNW <;> omega) rfl (by split at hNW <;> omega) (by intro h8; rw [if_pos h8] at hNW; omega) (by split at hNW <;> omega)
            (by intro i hi; split at hNW <;> omega) NW (10 * l2.length + 198) 0 (by omega) (by split at hNW <;> omega)
          exact h
      · rw [e0, Option.bind_some, if_neg (by decide)]
        exact stop1 _
theorem laws_FnWriteWords.walk (P : ∀ (l0 : List Int) (a1 : Int) (l2 : List Bool), (∀ x ∈ l0, (Lit.int .u8 x).wf = true) → ∃ k, laws_FnWriteWords.f k l0 a1 l2 = some true) (a0 : Option Addr) (len0 cap0 : Nat) (z0 : List Int) (a1 : Int) (a2 : Option Addr) (len2 cap2 : Nat) (Z2 : Nat → Bool) (w : World) (hT : TabAt w)
    (w0 : (a0 = none ∧ len0 = 0 ∧ cap0 = 0 ∧ z0 = []) ∨ ∃ x, a0 = some x ∧ len0 ≤ cap0 ∧ cap0 ≤ maxLen ∧ z0.length = cap0 ∧ (∀ i, i < z0.length → w.cell? (x.add i) = some (.int .u8 (z0.getD i 0))) ∧ ∀ n ∈ z0, (Lit.int .u8 n).wf = true)
    (w2 : (a2 = none ∧ len2 = 0 ∧ cap2 = 0) ∨ ∃ x, a2 = some x ∧ len2 ≤ cap2 ∧ cap2 ≤ maxLen ∧ ∀ i, i < cap2 → w.cell? (x.add i) = some (.bool (Z2 i))) :
    Calls Tryd.prog 3 #[.slice a0 len0 cap0, .int .i64 a1, .slice a2 len2 cap2] w fun e w' => e = .returned (.bool true) ∧ Below w.heap.size w w' := by
  obtain ⟨l0, rfl, hr0, hm0, hw0, hc0⟩ := ReadsInt.ofRowC w0
  obtain ⟨l2, hl2⟩ : ∃ l2, l2 = (List.range len2).map Z2 := ⟨_, rfl⟩
  have hlen : l2.length = len2 := by rw [hl2]; simp
  have hle : len2 ≤ cap2 := by
    rcases w2 with ⟨-, rfl, rfl⟩ | ⟨x, -, h, -⟩
    · exact Nat.le_refl _
    · exact h
  have hr2 : Kd.C Kd.bool w a2 l2.length l2 := by
    refine Kd.C_of_reads (enc := Value.bool) (d := false) (h1 := fun _ => rfl) ⟨rfl, ?_, fun hn => ?_⟩
    · rcases w2 with ⟨-, rfl, rfl⟩ | ⟨x, -, h, hm, -⟩
      · rw [hlen]
        decide
      · rw [hlen]
        have : maxLen ≤ 9223372036854775807 := by decide
        omega
    · rcases w2 with ⟨-, rfl, rfl⟩ | ⟨x, rfl, h, hm, hc⟩
      · omega
      · refine ⟨x, rfl, fun j hj => ?_⟩
        rw [hc j (by omega), hl2, List.getD_eq_getElem?_getD, List.getElem?_map, List.getElem?_range (by omega)]
        rfl
  obtain ⟨k, h⟩ := P l0 a1 l2 hw0
  rw [← hlen]
  refine (laws_FnWriteWords.calls k _ _ l0 a1 _ _ l2 true w hT (Kd.C_of_reads (d := (0 : Int)) (h1 := fun _ => rfl) hr0) hc0 hr2 (by omega) h).mono ?_
  rintro e w' ⟨rfl, hd⟩
  exact ⟨rfl, hd⟩
end Go.Proofs.YthgbfmcicpmepaaDoor.V
