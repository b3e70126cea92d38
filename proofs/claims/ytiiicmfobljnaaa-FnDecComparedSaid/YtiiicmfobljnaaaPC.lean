/- The plain law of FnDecCompared. -/
import Derived.Test.YtiiicmfobljnaaaV9
namespace Go.Proofs.Ytiiicmfobljnaaa.M
open Go.RowKit Go.Proofs.YtiiicmfobljnaaaW.PrintWords Go.Proofs.YtiiicmfobljnaaaW.PrintLast Go.Proofs.YtiiicmfobljnaaaW.PrintMore Go.Proofs.Ytiiicmfobljnaaa.V
attribute [local irreducible] dv BB rd
theorem sv_abs {l : List Int} (h : U64 l) (hl : l.length ≤ 4) : (sv l).natAbs ≤ 115792089237316195423570985008687907853269984665640564039457584007913129639936 := by
  have hb := uw_bounds h
  have e : (2 : Int) ^ (64 * l.length) ≤ 115792089237316195423570985008687907853269984665640564039457584007913129639936 := by
    have : l.length = 0 ∨ l.length = 1 ∨ l.length = 2 ∨ l.length = 3 ∨ l.length = 4 := by omega
    rcases this with h | h | h | h | h <;> rw [h] <;> decide
  unfold sv
  split <;> omega
theorem len9 {z : Int} (h : z.natAbs ≤ 231584178474632390847141970017375815706539969331281128078915168015826259279872) : (mg z.natAbs).length ≤ 9 := mg_length_le (by rw [show (4294967296 : Nat) ^ 9 = 497323236409786642155382248146820840100456150797347717440463976893159497012533375533056 from rfl]; omega)
theorem sv_len {l : List Int} (h : U64 l) (hl : l.length ≤ 4) : (mg (sv l).natAbs).length ≤ 9 := by have := sv_abs h hl; exact len9 (by omega)
theorem dec_len {a0 : Int} {l : List Int} (d : isDec a0 l = true) : l.length ≤ 4 ∧ (a0 = 32 ∨ a0 = 64 ∨ a0 = 128 ∨ a0 = 256) := by
  simp only [isDec, decide_eq_true_eq] at d
  omega
theorem cmpd_eq (a0 : Int) (l1 l2 : List Int) (u1 : U64 l1) (u2 : U64 l2) (d1 : isDec a0 l1 = true) (d2 : isDec a0 l2 = true) :
    impl_DecCompared.f a0 l1 l2 = some (cmpI (sv l1) (sv l2), cmpI (sv l1) (sv l2) == 0, !decide (a0 < 128) && decide (sv l1 < sv l2), !decide (a0 < 128) && !decide (sv l2 < sv l1), !decide (a0 < 128) && decide (sv l2 < sv l1), !decide (a0 < 128) && !decide (sv l1 < sv l2), sgn (sv l1), true) := by
  unfold impl_DecCompared.f
  rw [if_pos ⟨d1, d2, u1, u2⟩]
theorem unit_sv : sv [1, 0] = 1 := by
  rw [sv_two' (by omega), show wrap64 0 = 0 from w64 (by omega) (by omega)]; rfl
theorem awake_eq : impl_DecCompared.f 128 [1, 0] [1, 0] = some (0, true, false, true, false, true, 1, true) := by
  rw [cmpd_eq 128 [1, 0] [1, 0] (by intro x hx; simp at hx; omega) (by intro x hx; simp at hx; omega) (by simp [isDec]) (by simp [isDec]), unit_sv]
  rfl
theorem cmpI_cases (x y : Int) : (x < y ∧ cmpI x y = -1) ∨ (y < x ∧ cmpI x y = 1) ∨ (x = y ∧ cmpI x y = 0) := by
  unfold cmpI
  by_cases c : x < y
  · exact .inl ⟨c, if_pos c⟩
  · by_cases d : y < x
    · exact .inr (.inl ⟨d, by rw [if_neg c, if_pos d]⟩)
    · exact .inr (.inr ⟨by omega, by rw [if_neg c, if_neg d]⟩)
theorem cmpd_j2 (a0 : Int) (l1 l2 : List Int) (u1 : U64 l1) (u2 : U64 l2) (d1 : isDec a0 l1 = true) (d2 : isDec a0 l2 = true) :
    EvT (fun k => laws_FnDecCompared.j2 k a0 l1 l2 true false (wd (sv l1)).1 (wd (sv l1)).2 (wd (sv l2)).1 (wd (sv l2)).2) true := by
  have he := cmpd_eq a0 l1 l2 u1 u2 d1 d2
  have lx := sv_len u1 (dec_len d1).1
  have ly := sv_len u2 (dec_len d2).1
  refine EvT.succ ?_
  simp only [laws_FnDecCompared.j2, Bool.false_eq_true, if_false, he, Option.bind_some, if_true]
  refine EvT.bind (WideCmp_ev (sv l1) (sv l2) (by omega) (by omega)) ?_
  simp only [if_true, Sign_eq, Option.bind_some]
  rw [show (if sv l1 < 0 then (-1 : Int) else if sv l1 = 0 then 0 else 1) = sgn (sv l1) from rfl]
  simp only [if_true, beq_self_eq_true]
  by_cases c : a0 < 128
  · rw [if_pos c]; exact EvT.some_ _
  · rw [if_neg c, decide_eq_false c]
    generalize sv l1 = x
    generalize sv l2 = y
    have e : ∀ a b c d : Bool, a = true → b = true → c = true → d = true → EvT (fun _ => if a = true then (if b = true then (if c = true then (if d = true then some true else some false) else some false) else some false) else some false) true := by
      intro a b c d h1 h2 h3 h4
      rw [if_pos h1, if_pos h2, if_pos h3, if_pos h4]
      exact EvT.some_ _
    refine e _ _ _ _ ?_ ?_ ?_ ?_
    all_goals
      obtain ⟨h, e⟩ | ⟨h, e⟩ | ⟨h, e⟩ := cmpI_cases x y
      all_goals
        rw [e]
        simp
        try omega
theorem cmpd_skip (a0 : Int) (l1 l2 : List Int) (b c : Bool) (p q : List Int) : EvT (fun k => laws_FnDecCompared.j2 k a0 l1 l2 true true b p c q) true := by
  refine EvT.succ ?_
  simp only [laws_FnDecCompared.j2, if_true]
  exact EvT.some_ _
theorem cmpd_j1 (a0 : Int) (l1 l2 : List Int) (u1 : U64 l1) (u2 : U64 l2) : EvT (fun k => laws_FnDecCompared.j1 k a0 l1 l2 true) true := by
  refine EvT.succ ?_
  simp only [laws_FnDecCompared.j1]
  refine EvT.bind (decimal_ev a0 l1 u1) (EvT.bind (decimal_ev a0 l2 u2) ?_)
  by_cases d1 : isDec a0 l1 = true
  · by_cases d2 : isDec a0 l2 = true
    · simp only [if_pos d1, if_pos d2, if_true, Bool.not_true]
      exact cmpd_j2 a0 l1 l2 u1 u2 d1 d2
    · simp only [if_pos d1, if_neg d2, if_true, Bool.not_false]; exact cmpd_skip _ _ _ _ _ _ _
  · simp only [if_neg d1, Bool.false_eq_true, if_false]; exact cmpd_skip _ _ _ _ _ _ _
theorem cmpd_j0 (a0 : Int) (l1 l2 : List Int) (u1 : U64 l1) (u2 : U64 l2) (b : Bool) : EvT (fun k => laws_FnDecCompared.j0 k a0 l1 l2 b) true := by
  refine EvT.succ ?_
  cases b with
  | true => simp only [laws_FnDecCompared.j0, if_true]; exact EvT.some_ _
  | false =>
    simp only [laws_FnDecCompared.j0, Bool.false_eq_true, if_false, laws_unit.f, Option.bind_some, awake_eq, if_true]
    exact cmpd_j1 a0 l1 l2 u1 u2
theorem DecCompared_pure : laws_FnDecCompared.Pure := by
  intro a0 l1 l2 _ _ _ h1 _ _ h2
  suffices h : EvT (fun k => laws_FnDecCompared.f k a0 l1 l2) true by
    obtain ⟨k0, hk⟩ := h
    exact ⟨k0, hk k0 (Nat.le_refl _)⟩
  have u1 := U64_of h1
  have u2 := U64_of h2
  unfold laws_FnDecCompared.f
  split
  · exact cmpd_j0 a0 l1 l2 u1 u2 true
  · exact cmpd_j0 a0 l1 l2 u1 u2 _
end Go.Proofs.Ytiiicmfobljnaaa.M
