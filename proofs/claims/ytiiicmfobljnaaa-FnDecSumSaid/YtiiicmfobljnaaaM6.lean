/- What the reference's ToWords answers: an integer's words of 64 bits in two's complement, and whether it has no others. -/
import Derived.Test.YtiiicmfobljnaaaV3
import Derived.Test.YtiiicmfobljnaaaM5
namespace Go.Proofs.Ytiiicmfobljnaaa.M
open Go.RowKit Go.Proofs.YtiiicmfobljnaaaW.PrintWords Go.Proofs.YtiiicmfobljnaaaW.PrintLast Go.Proofs.YtiiicmfobljnaaaW.PrintMore Go.Proofs.Ytiiicmfobljnaaa.V

theorem IntKind.wrap_u64' (n : Int) : IntKind.u64.wrap n = n % 18446744073709551616 := by simp [IntKind.wrap, IntKind.bits, IntKind.signed]
theorem wraps_u64 (n : Int) (h₀ : 0 ≤ n) (h₁ : n < 2 ^ 64) : IntKind.u64.wrap n = n := by rw [IntKind.wrap_u64']; omega
attribute [local irreducible] dv BB rd

theorem or_comm_u64 {x y : Int} (hx : 0 ≤ x) (hx1 : x < 18446744073709551616) (hy : 0 ≤ y) (hy1 : y < 18446744073709551616) : Go.bits .or .u64 x y = Go.bits .or .u64 y x := by
  obtain ⟨a, rfl⟩ := Int.eq_ofNat_of_zero_le hx
  obtain ⟨b, rfl⟩ := Int.eq_ofNat_of_zero_le hy
  have ha : a < 2 ^ 64 := by omega
  have hb : b < 2 ^ 64 := by omega
  rw [(bits_nat .u64 64 (by decide) wraps_u64 a b ha hb).2, (bits_nat .u64 64 (by decide) wraps_u64 b a hb ha).2, Nat.or_comm]
theorem or_low {d : Int} (h0 : 0 ≤ d) (h1 : d < 4294967296) : Go.bits .or .u64 0 (shl .u64 (IntKind.u64.wrap d) 0) = d := by
  have e : shl .u64 (IntKind.u64.wrap d) 0 = d := by
    unfold shl
    rw [u64i (n := d) (by omega) (by omega), show min (0 : Int).toNat IntKind.u64.bits = 0 from rfl, Int.pow_zero, Int.mul_one, u64i (by omega) (by omega)]
  rw [e, or_comm_u64 (by omega) (by omega) (by omega) (by omega)]
  obtain ⟨a, rfl⟩ := Int.eq_ofNat_of_zero_le h0
  have := (bits_nat .u64 64 (by decide) wraps_u64 a 0 (by omega) (by omega)).2
  simp only [Nat.or_zero] at this
  exact this
theorem or_high {c d : Int} (c0 : 0 ≤ c) (c1 : c < 4294967296) (h0 : 0 ≤ d) (h1 : d < 4294967296) : Go.bits .or .u64 c (shl .u64 (IntKind.u64.wrap d) 32) = c + 4294967296 * d := by
  have e : shl .u64 (IntKind.u64.wrap d) 32 = d * 4294967296 := by
    unfold shl
    rw [u64i (n := d) (by omega) (by omega), show min (32 : Int).toNat IntKind.u64.bits = 32 from rfl, show (2 : Int) ^ 32 = 4294967296 from by decide, u64i (by omega) (by omega)]
  rw [e, or_comm_u64 (by omega) (by omega) (by omega) (by omega), bits_join .u64 64 (by decide) wraps_u64 32 (d * 4294967296) c (by omega) (by omega) (by omega) (by omega) (by omega) (by omega)]
  omega
theorem set_self {l : List Int} {i : Nat} (h : i < l.length) {v : Int} (hv : l.getD i 0 = v) : l.set i v = l := by
  rw [← hv, List.getD_eq_getElem?_getD, List.getElem?_eq_getElem h]
  exact List.set_getElem_self h

/-- Word i of digits. -/
def wordL (l : List Int) (i : Nat) : Int := l.getD (2 * i) 0 + 4294967296 * l.getD (2 * i + 1) 0

theorem TW_l1 (fits neg : Bool) (l : List Int) (hl : Dg l) (n i : Nat) (hn : n < 1048576) (hlen : l.length < 1048576) (out : List Int) (hi : i < n) (ho : out.length = n) (hz : out.getD i 0 = 0) (r : List Int × Bool)
    (hnext : EvT (fun k => spec_ToWords.l0 k fits (out.set i (wordL l i)) (n : Int) ((i + 1 : Nat) : Int) neg l) r) :
    EvT (fun k => spec_ToWords.l1 k fits out (i : Int) 0 (n : Int) (i : Int) neg l) r := by
  have d0 := Dg_getD hl (2 * i)
  have d1 := Dg_getD hl (2 * i + 1)
  have e20 : 2 * (i : Int) + 0 = ((2 * i : Nat) : Int) := by omega
  have e21 : 2 * (i : Int) + 1 = ((2 * i + 1 : Nat) : Int) := by omega
  -- the last round
  have last : ∀ o : List Int, EvT (fun k => spec_ToWords.l0 k fits o (n : Int) ((i + 1 : Nat) : Int) neg l) r → EvT (fun k => spec_ToWords.l1 k fits o (i : Int) 2 (n : Int) (i : Int) neg l) r := by
    intro o h
    refine EvT.succ (EvT.congr h fun k => ?_)
    simp only [spec_ToWords.l1]
    rw [if_neg (by omega), w64s i (by omega)]
  -- the second one
  have second : EvT (fun k => spec_ToWords.l1 k fits (out.set i (l.getD (2 * i) 0)) (i : Int) 1 (n : Int) (i : Int) neg l) r := by
    have hol : (out.set i (l.getD (2 * i) 0)).length = n := by simp [ho]
    have hog : (out.set i (l.getD (2 * i) 0)).getD i 0 = l.getD (2 * i) 0 := by
      rw [List.getD_eq_getElem?_getD, List.getElem?_set_self (by omega)]; rfl
    by_cases hlt : 2 * i + 1 < l.length
    · refine EvT.succ (EvT.congr (last _ hnext) fun k => ?_)
      simp only [spec_ToWords.l1]
      rw [if_pos (by omega), w64 (n := 2 * (i : Int)) (by omega) (by omega), e21, w64 (n := ((2 * i + 1 : Nat) : Int)) (by omega) (by omega), if_pos (by omega), if_pos (by omega), if_pos (by rw [hol]; omega), if_pos (by omega),
        w64 (n := 32 * (1 : Int)) (by omega) (by omega), if_pos (by omega), w64 (n := (1 : Int) + 1) (by omega) (by omega), rd_nat, rd_nat, hog, show (32 : Int) * 1 = 32 from rfl, or_high d0.1 d0.2 d1.1 d1.2, Int.toNat_natCast, List.set_set]
      rfl
    · have hz1 : l.getD (2 * i + 1) 0 = 0 := getD_out hlt
      have hw : wordL l i = l.getD (2 * i) 0 := by unfold wordL; omega
      rw [hw] at hnext
      refine EvT.succ (EvT.congr (last _ hnext) fun k => ?_)
      simp only [spec_ToWords.l1]
      rw [if_pos (by omega), w64 (n := 2 * (i : Int)) (by omega) (by omega), e21, w64 (n := ((2 * i + 1 : Nat) : Int)) (by omega) (by omega), if_neg (by omega), w64 (n := (1 : Int) + 1) (by omega) (by omega)]
      rfl
  by_cases hlt : 2 * i < l.length
  · refine EvT.succ (EvT.congr second fun k => ?_)
    simp only [spec_ToWords.l1]
    rw [if_pos (by omega), w64 (n := 2 * (i : Int)) (by omega) (by omega), e20, w64 (n := ((2 * i : Nat) : Int)) (by omega) (by omega), if_pos (by omega), if_pos (by omega), if_pos (by omega), if_pos (by omega),
      w64 (n := 32 * (0 : Int)) (by omega) (by omega), if_pos (by omega), w64 (n := (0 : Int) + 1) (by omega) (by omega), rd_nat, rd_nat, hz, show (32 : Int) * 0 = 0 from rfl, or_low d0.1 d0.2, Int.toNat_natCast]
    rfl
  · have hz0 : l.getD (2 * i) 0 = 0 := getD_out hlt
    rw [hz0, set_self (by omega) hz] at second
    refine EvT.succ (EvT.congr second fun k => ?_)
    simp only [spec_ToWords.l1]
    rw [if_pos (by omega), w64 (n := 2 * (i : Int)) (by omega) (by omega), e20, w64 (n := ((2 * i : Nat) : Int)) (by omega) (by omega), if_neg (by omega), w64 (n := (0 : Int) + 1) (by omega) (by omega)]
    rfl

def wordsL (l : List Int) (n : Nat) : List Int := (List.range n).map (wordL l)
theorem wordsL_length (l : List Int) (n : Nat) : (wordsL l n).length = n := by simp [wordsL]
theorem ext_getD {a b : List Int} (hl : a.length = b.length) (h : ∀ j, j < a.length → a.getD j 0 = b.getD j 0) : a = b := by
  apply List.ext_getElem hl
  intro j h1 h2
  have := h j h1
  rw [List.getD_eq_getElem?_getD, List.getD_eq_getElem?_getD, List.getElem?_eq_getElem h1, List.getElem?_eq_getElem h2] at this
  exact this
theorem wordsL_getD (l : List Int) (n j : Nat) (h : j < n) : (wordsL l n).getD j 0 = wordL l j := by
  unfold wordsL
  rw [List.getD_eq_getElem?_getD, List.getElem?_eq_getElem (by simpa using h)]
  simp

theorem TW_l0 (fits neg : Bool) (l : List Int) (hl : Dg l) (n : Nat) (hn : n < 1048576) (hlen : l.length < 1048576) (m : Nat) :
    ∀ (i : Nat) (out : List Int), n - i = m → i ≤ n → out.length = n → (∀ j, j < i → out.getD j 0 = wordL l j) → (∀ j, i ≤ j → out.getD j 0 = 0) →
      EvT (fun k => spec_ToWords.l0 k fits out (n : Int) (i : Int) neg l) (wordsL l n, fits) := by
  induction m with
  | zero =>
    intro i out hm hi ho h1 _
    have e : i = n := by omega
    subst e
    have eo : out = wordsL l i := ext_getD (by rw [ho, wordsL_length]) fun j hj => by rw [h1 j (by omega), wordsL_getD l i j (by omega)]
    subst eo
    refine EvT.succ (EvT.of fun k => ?_)
    simp only [spec_ToWords.l0]
    rw [if_neg (by omega)]
  | succ m ih =>
    intro i out hm hi ho h1 h2
    have hn2 := ih (i + 1) (out.set i (wordL l i)) (by omega) (by omega) (by simp [ho]) (fun j hj => by
        by_cases e : j = i
        · subst e; rw [List.getD_eq_getElem?_getD, List.getElem?_set_self (by omega)]; rfl
        · rw [List.getD_eq_getElem?_getD, List.getElem?_set_ne (by omega), ← List.getD_eq_getElem?_getD]; exact h1 j (by omega))
      (fun j hj => by rw [List.getD_eq_getElem?_getD, List.getElem?_set_ne (by omega), ← List.getD_eq_getElem?_getD]; exact h2 j (by omega))
    have := TW_l1 fits neg l hl n i hn hlen out (by omega) ho (h2 i (Nat.le_refl _)) _ hn2
    refine EvT.succ (EvT.congr this fun k => ?_)
    simp only [spec_ToWords.l0]
    rw [if_pos (by omega)]

theorem TW_j1 (fits neg : Bool) (l : List Int) (hl : Dg l) (n : Nat) (hn : n < 1048576) (hlen : l.length < 1048576) : EvT (fun k => spec_ToWords.j1 k (n : Int) fits neg l) (wordsL l n, fits) := by
  have := TW_l0 fits neg l hl n hn hlen _ 0 (List.replicate n 0) rfl (by omega) (by simp) (fun j hj => by omega) (fun j _ => getD_replicate n j)
  refine EvT.succ (EvT.congr this fun k => ?_)
  simp only [spec_ToWords.j1]
  rw [if_pos (by omega), Int.toNat_natCast, if_pos (by omega), Option.bind_some, List.length_replicate]
  rfl

/-- Word i of an integer in two's complement. -/
def wordZ (z : Int) (i : Nat) : Int := z / 2 ^ (64 * i) % 18446744073709551616
def wordsZ (z : Int) (n : Nat) : List Int := (List.range n).map (wordZ z)
def fitsZ (z : Int) (n : Nat) : Bool := decide (-2 ^ (64 * n - 1) ≤ z ∧ z < 2 ^ (64 * n - 1))

theorem digs_pow (i : Nat) : (4294967296 : Nat) ^ (2 * i) = 2 ^ (64 * i) := by
  rw [show (4294967296 : Nat) = 2 ^ 32 from by decide, ← Nat.pow_mul]; congr 1; omega
/-- Words of digits are words of their number. -/
theorem wordL_mg (A i : Nat) : wordL (mg A) i = wordZ (A : Int) i := by
  unfold wordL wordZ
  rw [dig_getD _ (Dg_mg A), dig_getD _ (Dg_mg A), dv_mg, Int.toNat_natCast, Nat.pow_succ, ← Nat.div_div_eq_div_mul, digs_pow]
  have e : ((A : Int) / 2 ^ (64 * i)) = ((A / 2 ^ (64 * i) : Nat) : Int) := by simp
  rw [e]
  generalize A / 2 ^ (64 * i) = q
  omega
/-- Numbers that differ by a multiple of 2^(64 n) have the same words. -/
theorem wordZ_add (z m : Int) (n i : Nat) (h : i < n) : wordZ (z + 2 ^ (64 * n) * m) i = wordZ z i := by
  unfold wordZ
  have e : (2 : Int) ^ (64 * n) * m = 2 ^ (64 * i) * (18446744073709551616 * (2 ^ (64 * (n - i - 1)) * m)) := by
    have : 64 * n = 64 * i + (64 + 64 * (n - i - 1)) := by omega
    rw [this, Int.pow_add, Int.pow_add, show (2 : Int) ^ 64 = 18446744073709551616 from by decide]
    rw [Int.mul_assoc, Int.mul_assoc]
  have hp : (0 : Int) < 2 ^ (64 * i) := Int.pow_pos (by omega)
  rw [e, Int.add_mul_ediv_left _ _ (by omega)]
  omega
theorem wordsL_wordsZ (A : Nat) (z m : Int) (n : Nat) (h : (A : Int) = z + 2 ^ (64 * n) * m) : wordsL (mg A) n = wordsZ z n := by
  unfold wordsL wordsZ
  apply List.map_congr_left
  intro i hi
  rw [wordL_mg, h, wordZ_add z m n i (by simpa using hi)]

theorem two_len (t : Nat) : (mg ((2 : Int) ^ t).natAbs).length ≤ t + 1 := by rw [natAbs_two]; exact pow_len (by decide) t
theorem cmp_ge {x y : Int} : (cmpI x y ≥ 0) ↔ y ≤ x := by
  unfold cmpI
  by_cases h : x < y
  · rw [if_pos h]; omega
  · rw [if_neg h]; split <;> omega
theorem cmp_lt {x y : Int} : (cmpI x y < 0) ↔ x < y := by
  unfold cmpI
  by_cases h : x < y
  · rw [if_pos h]; omega
  · rw [if_neg h]; split <;> omega

theorem ToWords_ev (z : Int) (n : Nat) (hn1 : 1 ≤ n) (hn : n ≤ 16) (lz : (mg z.natAbs).length < 65536) : EvT (fun k => spec_ToWords.f k (wd z).1 (wd z).2 (n : Int)) (wordsZ z n, fitsZ z n) := by
  -- behind the look whether it fits
  have rest : ∀ fits : Bool, EvT (fun k => spec_ToWords.j0 k (n : Int) fits (wd z).1 (wd z).2) (wordsZ z n, fits) := by
    intro fits
    have w : wrap64 (64 * (n : Int)) = ((64 * n : Nat) : Int) := by rw [w64 (by omega) (by omega)]; omega
    by_cases hz : z < 0
    · have hneg : (wd z).1 = true := by clear w; simp [wd, hz]
      have h1 := Two_ev (64 * n) (by clear w; omega)
      have hp : (0 : Int) < 2 ^ (64 * n) := Int.pow_pos (by omega)
      have h2 := WideDiv_ev z (2 ^ (64 * n)) (by clear w; omega) (by clear w; omega) (by have := two_len (64 * n); clear w; omega)
      have hr := Int.tmod_nonneg (2 ^ (64 * n)) (show 0 ≤ -z by clear w; omega)
      rw [Int.neg_tmod] at hr
      have hr2 : -(2 : Int) ^ (64 * n) < Int.tmod z (2 ^ (64 * n)) := by
        have := Int.lt_tmod_of_pos z hp
        clear w; omega
      have hsum : (((Int.tmod z (2 ^ (64 * n)) + 2 ^ (64 * n)).natAbs : Nat) : Int) = z + 2 ^ (64 * n) * (1 - Int.tdiv z (2 ^ (64 * n))) := by
        have e := Int.mul_tdiv_add_tmod z (2 ^ (64 * n))
        have e2 : (2 : Int) ^ (64 * n) * (1 - Int.tdiv z (2 ^ (64 * n))) = 2 ^ (64 * n) - 2 ^ (64 * n) * Int.tdiv z (2 ^ (64 * n)) := by grind
        rw [e2]; clear w; omega
      have l3 : (mg (Int.tmod z (2 ^ (64 * n))).natAbs).length ≤ 64 * n + 1 :=
        Nat.le_trans (mg_length_mono (b := ((2 : Int) ^ (64 * n)).natAbs) (by clear w; omega)) (two_len (64 * n))
      have h3 := WideAdd_ev (Int.tmod z (2 ^ (64 * n))) (2 ^ (64 * n)) (by clear w; omega) (by have := two_len (64 * n); clear w; omega)
      have l4 : (mg (Int.tmod z (2 ^ (64 * n)) + 2 ^ (64 * n)).natAbs).length ≤ 64 * n + 1 :=
        Nat.le_trans (mg_length_mono (b := ((2 : Int) ^ (64 * n)).natAbs) (by clear w; omega)) (two_len (64 * n))
      have h4 := TW_j1 fits (wd (Int.tmod z (2 ^ (64 * n)) + 2 ^ (64 * n))).1 (wd (Int.tmod z (2 ^ (64 * n)) + 2 ^ (64 * n))).2 (Dg_mg _) n (by clear w; omega) (by simp only [wd]; clear w; omega)
      have e5 : wordsL (wd (Int.tmod z (2 ^ (64 * n)) + 2 ^ (64 * n))).2 n = wordsZ z n := wordsL_wordsZ _ z _ n hsum
      rw [e5] at h4
      refine EvT.succ (EvT.congr (EvT.bind h1 (h := fun k b => (spec_WideDiv.f k (wd z).1 (wd z).2 b.1 b.2).bind fun c => (spec_Two.f k ((64 * n : Nat) : Int)).bind fun d => (spec_WideAdd.f k c.2.2.1 c.2.2.2 d.1 d.2).bind fun e => spec_ToWords.j1 k (n : Int) fits e.1 e.2)
        (EvT.bind h2 (h := fun k c => (spec_Two.f k ((64 * n : Nat) : Int)).bind fun d => (spec_WideAdd.f k c.2.2.1 c.2.2.2 d.1 d.2).bind fun e => spec_ToWords.j1 k (n : Int) fits e.1 e.2)
          (EvT.bind h1 (h := fun k d => (spec_WideAdd.f k (wd (Int.tmod z (2 ^ (64 * n)))).1 (wd (Int.tmod z (2 ^ (64 * n)))).2 d.1 d.2).bind fun e => spec_ToWords.j1 k (n : Int) fits e.1 e.2)
            (EvT.bind h3 (h := fun k e => spec_ToWords.j1 k (n : Int) fits e.1 e.2) h4)))) fun k => ?_)
      simp only [spec_ToWords.j0, w]
      rw [if_pos hneg]
    · have hneg : ¬ (wd z).1 = true := by clear w; simp [wd]; omega
      have h4 := TW_j1 fits (wd z).1 (wd z).2 (Dg_mg _) n (by clear w; omega) (by simp only [wd]; clear w; omega)
      have e5 : wordsL (wd z).2 n = wordsZ z n := wordsL_wordsZ _ z 0 n (by clear w; omega)
      rw [e5] at h4
      refine EvT.succ (EvT.congr h4 fun k => ?_)
      simp only [spec_ToWords.j0]
      rw [if_neg hneg]
  have w : wrap64 (wrap64 (64 * (n : Int)) - 1) = ((64 * n - 1 : Nat) : Int) := by rw [w64 (n := 64 * (n : Int)) (by omega) (by omega), w64 (by omega) (by omega)]; omega
  have h1 := Two_ev (64 * n - 1) (by clear w; omega)
  have l1 := two_len (64 * n - 1)
  have h2 := WideCmp_ev z (2 ^ (64 * n - 1)) (by clear w; omega) (by clear w; omega)
  have h3 := Negated_ev (2 ^ (64 * n - 1)) (by clear w; omega)
  have h4 := WideCmp_ev z (-2 ^ (64 * n - 1)) (by clear w; omega) (by rw [Int.natAbs_neg]; clear w; omega)
  refine EvT.congr (EvT.bind h1 (h := fun k b => (spec_WideCmp.f k (wd z).1 (wd z).2 b.1 b.2).bind fun t => (if t < 0 then ((spec_Wide_Negated.f k b.1 b.2).bind fun c => ((spec_WideCmp.f k (wd z).1 (wd z).2 c.1 c.2).bind fun u => (spec_ToWords.j0 k (n : Int) (decide (u ≥ 0)) (wd z).1 (wd z).2))) else (spec_ToWords.j0 k (n : Int) false (wd z).1 (wd z).2)))
    (EvT.bind h2 (h := fun k t => (if t < 0 then ((spec_Wide_Negated.f k (wd (2 ^ (64 * n - 1))).1 (wd (2 ^ (64 * n - 1))).2).bind fun c => ((spec_WideCmp.f k (wd z).1 (wd z).2 c.1 c.2).bind fun u => (spec_ToWords.j0 k (n : Int) (decide (u ≥ 0)) (wd z).1 (wd z).2))) else (spec_ToWords.j0 k (n : Int) false (wd z).1 (wd z).2))) ?_)) fun k => ?_
  · by_cases hlt : z < 2 ^ (64 * n - 1)
    · have hf : fitsZ z n = decide (cmpI z (-2 ^ (64 * n - 1)) ≥ 0) := by
        unfold fitsZ; rw [decide_eq_decide, cmp_ge]; clear w; omega
      rw [hf]
      refine EvT.congr (EvT.bind h3 (h := fun k c => (spec_WideCmp.f k (wd z).1 (wd z).2 c.1 c.2).bind fun u => (spec_ToWords.j0 k (n : Int) (decide (u ≥ 0)) (wd z).1 (wd z).2)) (EvT.bind h4 (h := fun k u => (spec_ToWords.j0 k (n : Int) (decide (u ≥ 0)) (wd z).1 (wd z).2)) (rest _))) fun k => ?_
      rw [if_pos (cmp_lt.2 hlt)]
    · have hf : fitsZ z n = false := by
        unfold fitsZ; rw [decide_eq_false_iff_not]; clear w; omega
      rw [hf]
      refine EvT.congr (rest false) fun k => ?_
      rw [if_neg (fun h => hlt (cmp_lt.1 h))]
  · unfold spec_ToWords.f
    rw [w]
end Go.Proofs.Ytiiicmfobljnaaa.M
