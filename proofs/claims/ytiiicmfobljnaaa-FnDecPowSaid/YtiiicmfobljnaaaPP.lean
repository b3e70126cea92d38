/- The plain law of FnDecPow. -/
import Derived.Test.YtiiicmfobljnaaaV6
import Derived.Test.YtiiicmfobljnaaaM8
namespace Go.Proofs.Ytiiicmfobljnaaa.M
open Go.RowKit Go.Proofs.YtiiicmfobljnaaaW.PrintWords Go.Proofs.YtiiicmfobljnaaaW.PrintLast Go.Proofs.YtiiicmfobljnaaaW.PrintMore Go.Proofs.Ytiiicmfobljnaaa.V
attribute [local irreducible] dv BB rd

theorem pow_eq (a0 : Int) (l1 l2 : List Int) (u1 : U64 l1) (u2 : U64 l2) (d1 : isDec a0 l1 = true) (d2 : isDec a0 l2 = true) (ha : ¬ a0 > 64) (hy : 0 ≤ sv l2) :
    impl_DecPow.f a0 l1 l2 = some (wrW a0 (sv l1 ^ (sv l2).toNat), true) := by
  obtain ⟨rfl, e1, e2, k1, k2⟩ | ⟨rfl, e1, e2⟩ := dec_two d1 d2 ha
  · have x1 := dec32 k1
    have x2 := dec32 k2
    rw [sv_one u1 e1, sv_one u2 e2]
    rw [sv_one u2 e2] at hy
    rw [x1, x2, w64_w32, w64_w32]
    rw [x2, w64_w32] at hy
    unfold impl_DecPow.f
    rw [if_neg (by omega), if_pos ⟨rfl, e1, e2, x1, x2, hy⟩]
    simp only [wrW, if_true, wrap32_mod]
  · rw [sv_one u1 e1, sv_one u2 e2]
    rw [sv_one u2 e2] at hy
    unfold impl_DecPow.f
    rw [if_pos ⟨rfl, e1, e2, hy⟩, wrW64, u64_w64]
theorem awake_pow : impl_DecPow.f 64 [2] [3] = some ([8], true) := by
  have h := pow_eq 64 [2] [3] (by intro x hx; simp at hx; omega) (by intro x hx; simp at hx; omega) (by simp [isDec]) (by simp [isDec]) (by omega) (by decide)
  rw [h]
  decide

theorem least_ev (a0 z : Int) (ha : a0 = 32 ∨ a0 = 64) (lz : (mg z.natAbs).length < 65536) : ∃ b, EvT (fun k => laws_least.f k a0 (wd z).1 (wd z).2) b := by
  obtain ⟨n, hn, hb⟩ : ∃ n : Nat, wrap64 (a0 - 1) = (n : Int) ∧ n ≤ 63 := by
    obtain rfl | rfl := ha
    · exact ⟨31, w64 (by omega) (by omega), by omega⟩
    · exact ⟨63, w64 (by omega) (by omega), by omega⟩
  have h1 := Two_ev n (by omega)
  have l2 := two_len n
  have h2 := Negated_ev (2 ^ n) (by omega)
  have h3 := WideCmp_ev z (-2 ^ n) (by omega) (by rw [Int.natAbs_neg]; omega)
  unfold laws_least.f
  rw [hn]
  exact ⟨_, EvT.bind h1 (EvT.bind h2 (EvT.bind h3 (EvT.some_ _)))⟩

theorem pow_short (x : Int) (hx : -9223372036854775808 ≤ x ∧ x < 9223372036854775808) (i : Nat) : (mg (x ^ i).natAbs).length ≤ 2 * i + 1 := by
  refine mg_length_le ?_
  rw [Int.natAbs_pow]
  have h1 : x.natAbs ^ i ≤ 18446744073709551616 ^ i := Nat.pow_le_pow_left (by omega) i
  have h2 : (4294967296 : Nat) ^ (2 * i + 1) = 18446744073709551616 ^ i * 4294967296 := by
    rw [Nat.pow_succ, Nat.pow_mul]
  have h3 : 0 < (18446744073709551616 : Nat) ^ i := Nat.pow_pos (by decide)
  omega

/-- The reference's power: where it is told, it is the power's words. -/
theorem power_l0 (a0 x : Int) (y : Nat) (ha : a0 = 32 ∨ a0 = 64) (hx : -9223372036854775808 ≤ x ∧ x < 9223372036854775808) (hy : y ≤ 20) (m : Nat) : ∀ i : Nat, y - i = m → i ≤ y →
    ∃ r : List Int × Bool, EvT (fun k => laws_power.l0 k a0 (wd x).1 (wd x).2 (wd y).1 (wd y).2 (wd (x ^ i)).1 (wd (x ^ i)).2 (wd i).1 (wd i).2) r ∧ (r.2 = true → r.1 = wrW a0 (x ^ y)) := by
  have small : ∀ n : Nat, n ≤ 20 → (mg (n : Int).natAbs).length < 65536 := fun n hn => Nat.lt_of_le_of_lt (mg_length_le (m := 1) (by omega)) (by decide)
  induction m with
  | zero =>
    intro i h1 h2
    obtain rfl : i = y := by omega
    have hs := pow_short x hx i
    have hc := WideCmp_ev (i : Int) (i : Int) (by have := small i hy; omega) (by have := small i hy; omega)
    have hw := wrapped_ev a0 (x ^ i) (by omega) (by omega)
    refine ⟨(wrW a0 (x ^ i), wrF a0 (x ^ i)), EvT.succ ?_, fun _ => rfl⟩
    simp only [laws_power.l0]
    refine EvT.bind hc ?_
    simp only [if_neg (show ¬ cmpI (i : Int) (i : Int) < 0 by rw [cmp_lt]; omega)]
    exact EvT.bind hw (EvT.some_ _)
  | succ m ih =>
    intro i h1 h2
    have hs := pow_short x hx i
    have hs1 := pow_short x hx (i + 1)
    have lx := len_i64 hx.1 hx.2
    have hc := WideCmp_ev (i : Int) (y : Int) (by have := small i (by omega); omega) (by have := small y hy; omega)
    have hm := WideMul_ev (x ^ i) x (by omega) (by omega)
    rw [← Int.pow_succ] at hm
    have hw := wrapped_ev a0 (x ^ (i + 1)) (by omega) (by omega)
    obtain ⟨b, hb⟩ := least_ev a0 (x ^ (i + 1)) ha (by omega)
    obtain ⟨r, hr, hr2⟩ := ih (i + 1) (by omega) (by omega)
    have stop : EvT (fun k => laws_power.j2 k a0 true (wd x).1 (wd x).2 (wd y).1 (wd y).2 (wd (x ^ (i + 1))).1 (wd (x ^ (i + 1))).2 (wd i).1 (wd i).2) (([] : List Int), false) := by
      refine EvT.succ ?_
      simp only [laws_power.j2, if_true]
      exact EvT.some_ _
    have go : EvT (fun k => laws_power.j2 k a0 false (wd x).1 (wd x).2 (wd y).1 (wd y).2 (wd (x ^ (i + 1))).1 (wd (x ^ (i + 1))).2 (wd i).1 (wd i).2) r := by
      refine EvT.succ ?_
      simp only [laws_power.j2, Bool.false_eq_true, if_false]
      refine EvT.bind (WideInt_ev 1 (by omega) (by omega)) ?_
      have hadd := WideAdd_ev (i : Int) 1 (by have := small i (by omega); omega) (Nat.lt_of_le_of_lt (mg_length_le (m := 1) (by decide)) (by decide))
      rw [show (i : Int) + 1 = ((i + 1 : Nat) : Int) by omega] at hadd
      exact EvT.bind hadd hr
    by_cases f : wrF a0 (x ^ (i + 1)) = true
    · cases b with
      | true =>
        refine ⟨([], false), EvT.succ ?_, fun h => by simp at h⟩
        simp only [laws_power.l0]
        refine EvT.bind hc ?_
        simp only [if_pos (show cmpI (i : Int) (y : Int) < 0 by rw [cmp_lt]; omega)]
        refine EvT.bind hm (EvT.bind hw ?_)
        simp only [if_pos f]
        exact EvT.bind hb stop
      | false =>
        refine ⟨r, EvT.succ ?_, hr2⟩
        simp only [laws_power.l0]
        refine EvT.bind hc ?_
        simp only [if_pos (show cmpI (i : Int) (y : Int) < 0 by rw [cmp_lt]; omega)]
        refine EvT.bind hm (EvT.bind hw ?_)
        simp only [if_pos f]
        exact EvT.bind hb go
    · refine ⟨([], false), EvT.succ ?_, fun h => by simp at h⟩
      simp only [laws_power.l0]
      refine EvT.bind hc ?_
      simp only [if_pos (show cmpI (i : Int) (y : Int) < 0 by rw [cmp_lt]; omega)]
      refine EvT.bind hm (EvT.bind hw ?_)
      simp only [if_neg f]
      exact stop

theorem power_ev (a0 x y : Int) (ha : a0 = 32 ∨ a0 = 64) (hx : -9223372036854775808 ≤ x ∧ x < 9223372036854775808) (hy : -9223372036854775808 ≤ y ∧ y < 9223372036854775808) :
    ∃ r : List Int × Bool, EvT (fun k => laws_power.f k a0 (wd x).1 (wd x).2 (wd y).1 (wd y).2) r ∧ (r.2 = true → 0 ≤ y ∧ r.1 = wrW a0 (x ^ y.toNat)) := by
  have stop : EvT (fun k => laws_power.j0 k a0 true (wd x).1 (wd x).2 (wd y).1 (wd y).2) (([] : List Int), false) := by
    refine EvT.succ ?_
    simp only [laws_power.j0, if_true]
    exact EvT.some_ _
  have ly := len_i64 hy.1 hy.2
  unfold laws_power.f
  simp only [Sign_eq, Option.bind_some]
  by_cases c : y < 0
  · refine ⟨([], false), ?_, fun h => by simp at h⟩
    simp only [if_pos c, if_pos (show (-1 : Int) < 0 by omega)]
    exact stop
  · have hs : ¬ (if y < 0 then (-1 : Int) else if y = 0 then 0 else 1) < 0 := by
      rw [if_neg c]; split <;> omega
    have hcmp := WideCmp_ev y 20 (by omega) (Nat.lt_of_le_of_lt (mg_length_le (m := 1) (by decide)) (by decide))
    by_cases c2 : y > 20
    · refine ⟨([], false), ?_, fun h => by simp at h⟩
      simp only [if_neg hs]
      refine EvT.bind (WideInt_ev 20 (by omega) (by omega)) (EvT.bind hcmp ?_)
      simp only [decide_eq_true (show cmpI y 20 > 0 by unfold cmpI; rw [if_neg (by omega), if_pos (by omega)]; omega)]
      exact stop
    · obtain ⟨n, hn⟩ : ∃ n : Nat, y = (n : Int) := ⟨y.toNat, by omega⟩
      subst hn
      obtain ⟨r, hr, hr2⟩ := power_l0 a0 x n ha hx (by omega) _ 0 rfl (by omega)
      rw [Int.pow_zero, show ((0 : Nat) : Int) = 0 from rfl] at hr
      refine ⟨r, ?_, fun h => ⟨by omega, by rw [Int.toNat_natCast]; exact hr2 h⟩⟩
      simp only [if_neg hs]
      refine EvT.bind (WideInt_ev 20 (by omega) (by omega)) (EvT.bind hcmp ?_)
      simp only [decide_eq_false (show ¬ cmpI (n : Int) 20 > 0 by unfold cmpI; split <;> (try split) <;> omega)]
      refine EvT.succ ?_
      simp only [laws_power.j0, Bool.false_eq_true, if_false]
      exact EvT.bind (WideInt_ev 1 (by omega) (by omega)) (EvT.bind (WideInt_ev 0 (by omega) (by omega)) hr)

theorem pow_skip (a0 : Int) (l1 l2 : List Int) (b c : Bool) (p q : List Int) : EvT (fun k => laws_FnDecPow.j2 k a0 l1 l2 true true b p c q) true := by
  refine EvT.succ (EvT.of fun k => ?_)
  simp only [laws_FnDecPow.j2, if_true]

theorem pow_j1 (a0 : Int) (l1 l2 : List Int) (u1 : U64 l1) (u2 : U64 l2) : EvT (fun k => laws_FnDecPow.j1 k a0 l1 l2 true) true := by
  have e1 := decimal_ev a0 l1 u1
  have e2 := decimal_ev a0 l2 u2
  refine EvT.succ ?_
  simp only [laws_FnDecPow.j1]
  refine EvT.bind e1 (EvT.bind e2 ?_)
  by_cases d1 : isDec a0 l1 = true
  · by_cases d2 : isDec a0 l2 = true
    · simp only [if_pos d1, if_pos d2, if_true]
      by_cases ha : a0 > 64
      · simp only [decide_eq_true ha]; exact pow_skip _ _ _ _ _ _ _
      · simp only [decide_eq_false ha]
        have ht := dec_two d1 d2 ha
        have n1 : l1.length = 1 := by omega
        have n2 : l2.length = 1 := by omega
        have ha2 : a0 = 32 ∨ a0 = 64 := by omega
        have b1 : -9223372036854775808 ≤ sv l1 ∧ sv l1 < 9223372036854775808 := by rw [sv_one u1 n1]; exact w64_b _
        have b2 : -9223372036854775808 ≤ sv l2 ∧ sv l2 < 9223372036854775808 := by rw [sv_one u2 n2]; exact w64_b _
        obtain ⟨r, hr, hr2⟩ := power_ev a0 (sv l1) (sv l2) ha2 b1 b2
        refine EvT.succ ?_
        simp only [laws_FnDecPow.j2, Bool.false_eq_true, if_false]
        refine EvT.bind hr ?_
        by_cases c : r.2 = true
        · obtain ⟨h0, h1⟩ := hr2 c
          simp only [if_pos c, pow_eq a0 l1 l2 u1 u2 d1 d2 ha h0, Option.bind_some, if_true, h1]
          refine EvT.bind (same_ev _ _ (wrW_short a0 _ (by omega))) ?_
          simp only [decide_true, if_true]
          exact EvT.some_ _
        · simp only [if_neg c]
          exact EvT.some_ _
    · simp only [if_pos d1, if_neg d2, if_true, Bool.false_eq_true, if_false]; exact pow_skip _ _ _ _ _ _ _
  · simp only [if_neg d1, Bool.false_eq_true, if_false]; exact pow_skip _ _ _ _ _ _ _

theorem pow_j0 (a0 : Int) (l1 l2 : List Int) (u1 : U64 l1) (u2 : U64 l2) (b : Bool) : EvT (fun k => laws_FnDecPow.j0 k a0 l1 l2 b) true := by
  refine EvT.succ ?_
  cases b with
  | true => simp only [laws_FnDecPow.j0, if_true]; exact EvT.some_ _
  | false =>
    simp only [laws_FnDecPow.j0, Bool.false_eq_true, if_false, awake_pow, Option.bind_some, if_true]
    refine EvT.bind (same_ev [8] [8] (by simp)) ?_
    simp only [decide_true]
    exact pow_j1 a0 l1 l2 u1 u2

theorem DecPow_pure : laws_FnDecPow.Pure := by
  intro a0 l1 l2 _ _ _ h1 _ _ h2
  suffices h : EvT (fun k => laws_FnDecPow.f k a0 l1 l2) true by
    obtain ⟨k0, hk⟩ := h
    exact ⟨k0, hk k0 (Nat.le_refl _)⟩
  have u1 := U64_of h1
  have u2 := U64_of h2
  unfold laws_FnDecPow.f
  split
  · exact pow_j0 a0 l1 l2 u1 u2 true
  · exact pow_j0 a0 l1 l2 u1 u2 _
end Go.Proofs.Ytiiicmfobljnaaa.M
