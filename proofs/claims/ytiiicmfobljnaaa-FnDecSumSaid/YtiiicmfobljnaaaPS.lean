/- The plain law of FnDecSum. -/
import Derived.Test.YtiiicmfobljnaaaV7
import Derived.Test.YtiiicmfobljnaaaMS
namespace Go.Proofs.Ytiiicmfobljnaaa.M
open Go.RowKit Go.Proofs.YtiiicmfobljnaaaW.PrintWords Go.Proofs.YtiiicmfobljnaaaW.PrintLast Go.Proofs.YtiiicmfobljnaaaW.PrintMore Go.Proofs.Ytiiicmfobljnaaa.V
attribute [local irreducible] dv BB rd

theorem sv_abs {l : List Int} (h : U64 l) (hl : l.length ≤ 4) : (sv l).natAbs ≤ 115792089237316195423570985008687907853269984665640564039457584007913129639936 := by
  have hb := uw_bounds h
  have e : (2 : Int) ^ (64 * l.length) ≤ 115792089237316195423570985008687907853269984665640564039457584007913129639936 := by
    have : l.length = 0 ∨ l.length = 1 ∨ l.length = 2 ∨ l.length = 3 ∨ l.length = 4 := by omega
    rcases this with h | h | h | h | h <;> rw [h] <;> decide
  unfold sv
  split <;> omega
theorem len9 {z : Int} (h : z.natAbs ≤ 231584178474632390847141970017375815706539969331281128078915168015826259279872) : (mg z.natAbs).length ≤ 9 := mg_length_le (by rw [show (4294967296 : Nat) ^ 9 = 497323236409786642155382248146820840100456150797347717440463976893159497012533375533056 from rfl]; omega)
theorem sv_len {l : List Int} (h : U64 l) (hl : l.length ≤ 4) : (mg (sv l).natAbs).length ≤ 9 := by have := sv_abs h hl; exact len9 (by omega)
theorem dec_len {a0 : Int} {l : List Int} (d : isDec a0 l = true) : l.length ≤ 4 ∧ (a0 = 32 ∨ a0 = 64 ∨ a0 = 128 ∨ a0 = 256) := by
  simp only [isDec, decide_eq_true_eq] at d
  omega
theorem sum_eq (a0 : Int) (a1 : Bool) (l1 l2 : List Int) (u1 : U64 l1) (u2 : U64 l2) (d1 : isDec a0 l1 = true) (d2 : isDec a0 l2 = true) :
    impl_DecSum.f a0 a1 l1 l2 = some (wrW a0 (if a1 = true then sv l1 - sv l2 else sv l1 + sv l2), true) := by
  unfold impl_DecSum.f
  rw [if_pos ⟨d1, d2, u1, u2⟩]
theorem unit_sv : sv [1, 0] = 1 := by
  rw [sv_two (by omega), show wrap64 0 = 0 from w64 (by omega) (by omega)]; rfl
theorem sums_ev : EvT (fun k => laws_sums.f k) true := by
  have h := sum_eq 128 false [1, 0] [1, 0] (by intro x hx; simp at hx; omega) (by intro x hx; simp at hx; omega) (by simp [isDec]) (by simp [isDec])
  rw [if_neg (by decide), unit_sv, wrW128, show ((1 : Int) + 1) % 18446744073709551616 = 2 from rfl, show ((1 : Int) + 1) / 18446744073709551616 % 18446744073709551616 = 0 from rfl] at h
  refine EvT.congr (same_ev [2, 0] [2, 0] (by simp)) fun k => ?_
  simp only [laws_sums.f, laws_unit.f, Option.bind_some, h]
  rw [if_pos trivial]
  show ((laws_sameWords.f k [2, 0] [2, 0]).bind fun t => some t) = laws_sameWords.f k [2, 0] [2, 0]
  cases laws_sameWords.f k [2, 0] [2, 0] <;> rfl
theorem some_bind (o : Option Bool) : (o.bind fun t => some t) = o := by cases o <;> rfl

theorem sum_j2 (a0 : Int) (a1 : Bool) (l1 l2 : List Int) (u1 : U64 l1) (u2 : U64 l2) (d1 : isDec a0 l1 = true) (d2 : isDec a0 l2 = true) (y : Int) (hy : sv l1 + y = if a1 = true then sv l1 - sv l2 else sv l1 + sv l2) (hyb : y.natAbs ≤ 115792089237316195423570985008687907853269984665640564039457584007913129639936) :
    EvT (fun k => laws_FnDecSum.j2 k a0 a1 l1 l2 (wd (sv l1)).1 (wd (sv l1)).2 (wd y).1 (wd y).2) true := by
  have he := sum_eq a0 a1 l1 l2 u1 u2 d1 d2
  rw [← hy] at he
  have lx := sv_len u1 (dec_len d1).1
  have ha4 := (dec_len d1).2
  have ly := len9 (z := y) (by omega)
  have lxa := sv_abs u1 (dec_len d1).1
  have ls : (mg (sv l1 + y).natAbs).length < 65536 := by
    have := len9 (z := sv l1 + y) (by omega)
    omega
  refine EvT.succ ?_
  simp only [laws_FnDecSum.j2, he, Option.bind_some, if_true]
  refine EvT.bind (WideAdd_ev (sv l1) y (by omega) (by omega)) ?_
  refine EvT.bind (wrapped_ev a0 _ ha4 ls) ?_
  refine EvT.bind (same_ev _ _ (wrW_short a0 _ ha4)) ?_
  simp only [decide_true, if_true, some_bind]
  exact sums_ev
theorem sum_skip (a0 : Int) (a1 : Bool) (l1 l2 : List Int) (b c : Bool) (p q : List Int) : EvT (fun k => laws_FnDecSum.j1 k a0 a1 l1 l2 true b p c q) true := by
  refine EvT.succ ?_
  simp only [laws_FnDecSum.j1, if_true, some_bind]
  exact sums_ev
theorem sum_j1 (a0 : Int) (a1 : Bool) (l1 l2 : List Int) (u1 : U64 l1) (u2 : U64 l2) (d1 : isDec a0 l1 = true) (d2 : isDec a0 l2 = true) :
    EvT (fun k => laws_FnDecSum.j1 k a0 a1 l1 l2 false (wd (sv l1)).1 (wd (sv l1)).2 (wd (sv l2)).1 (wd (sv l2)).2) true := by
  have ly := sv_len u2 (dec_len d2).1
  have lya := sv_abs u2 (dec_len d2).1
  refine EvT.succ ?_
  simp only [laws_FnDecSum.j1, Bool.false_eq_true, if_false]
  cases a1 with
  | true =>
    simp only [if_true]
    refine EvT.bind (Negated_ev (sv l2) (by omega)) ?_
    exact sum_j2 a0 true l1 l2 u1 u2 d1 d2 (-(sv l2)) (by rw [if_pos rfl]; omega) (by rw [Int.natAbs_neg]; exact lya)
  | false =>
    simp only [Bool.false_eq_true, if_false]
    exact sum_j2 a0 false l1 l2 u1 u2 d1 d2 (sv l2) (by rw [if_neg (by decide)]) lya
theorem sum_j0 (a0 : Int) (a1 : Bool) (l1 l2 : List Int) (u1 : U64 l1) (u2 : U64 l2) (b : Bool) : EvT (fun k => laws_FnDecSum.j0 k a0 a1 l1 l2 b) true := by
  refine EvT.succ ?_
  cases b with
  | true => simp only [laws_FnDecSum.j0, if_true]; exact EvT.some_ _
  | false =>
    simp only [laws_FnDecSum.j0, Bool.false_eq_true, if_false]
    refine EvT.bind (decimal_ev a0 l1 u1) (EvT.bind (decimal_ev a0 l2 u2) ?_)
    by_cases d1 : isDec a0 l1 = true
    · by_cases d2 : isDec a0 l2 = true
      · simp only [if_pos d1, if_pos d2, if_true, Bool.not_true]
        exact sum_j1 a0 a1 l1 l2 u1 u2 d1 d2
      · simp only [if_pos d1, if_neg d2, if_true, Bool.not_false]; exact sum_skip _ _ _ _ _ _ _ _
    · simp only [if_neg d1, Bool.false_eq_true, if_false]; exact sum_skip _ _ _ _ _ _ _ _
theorem DecSum_pure : laws_FnDecSum.Pure := by
  intro a0 a1 l1 l2 _ _ _ h1 _ _ h2
  suffices h : EvT (fun k => laws_FnDecSum.f k a0 a1 l1 l2) true by
    obtain ⟨k0, hk⟩ := h
    exact ⟨k0, hk k0 (Nat.le_refl _)⟩
  have u1 := U64_of h1
  have u2 := U64_of h2
  unfold laws_FnDecSum.f
  split
  · exact sum_j0 a0 a1 l1 l2 u1 u2 true
  · exact sum_j0 a0 a1 l1 l2 u1 u2 _
end Go.Proofs.Ytiiicmfobljnaaa.M
