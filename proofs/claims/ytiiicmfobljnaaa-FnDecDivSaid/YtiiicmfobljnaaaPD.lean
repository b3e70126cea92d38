/- The plain law of FnDecDiv. -/
import Derived.Test.YtiiicmfobljnaaaV5
import Derived.Test.YtiiicmfobljnaaaM8
namespace Go.Proofs.Ytiiicmfobljnaaa.M
open Go.RowKit Go.Proofs.YtiiicmfobljnaaaW.PrintWords Go.Proofs.YtiiicmfobljnaaaW.PrintLast Go.Proofs.YtiiicmfobljnaaaW.PrintMore Go.Proofs.Ytiiicmfobljnaaa.V
attribute [local irreducible] dv BB rd

theorem div_eq (a0 : Int) (l1 l2 : List Int) (u1 : U64 l1) (u2 : U64 l2) (d1 : isDec a0 l1 = true) (d2 : isDec a0 l2 = true) (ha : ¬ a0 > 64) (hy : sv l2 ≠ 0) :
    impl_DecDiv.f a0 l1 l2 = some (wrW a0 (Int.tdiv (sv l1) (sv l2)), wrW a0 (Int.tmod (sv l1) (sv l2)), true) := by
  have hc := dec_two d1 d2 ha
  obtain ⟨rfl, e1, e2, k1, k2⟩ | ⟨rfl, e1, e2⟩ := hc
  · have x1 := dec32 k1
    have x2 := dec32 k2
    rw [sv_one u1 e1, sv_one u2 e2]
    rw [sv_one u2 e2] at hy
    rw [x1, x2, w64_w32, w64_w32]
    rw [x2, w64_w32] at hy
    unfold impl_DecDiv.f
    rw [if_neg (by omega), if_pos ⟨rfl, e1, e2, x1, x2, hy⟩]
    have b := w32_b (rd l1 0)
    have m := tmod_b (wrap32 (rd l1 0)) (wrap32 (rd l2 0))
    have e3 : wrap32 (Int.tmod (wrap32 (rd l1 0)) (wrap32 (rd l2 0))) = Int.tmod (wrap32 (rd l1 0)) (wrap32 (rd l2 0)) := by
      have s : Int.tmod (wrap32 (rd l1 0)) (wrap32 (rd l2 0)) < 2147483648 := by
        by_cases c : 0 ≤ wrap32 (rd l1 0)
        · omega
        · have h1 := Int.neg_tmod (- wrap32 (rd l1 0)) (wrap32 (rd l2 0))
          have h2 := Int.tmod_nonneg (wrap32 (rd l2 0)) (a := - wrap32 (rd l1 0)) (by omega)
          rw [Int.neg_neg] at h1
          omega
      exact w32 (by omega) s
    simp only [wrW, if_true, wrap32_mod, e3]
  · rw [sv_one u1 e1, sv_one u2 e2]
    rw [sv_one u2 e2] at hy
    unfold impl_DecDiv.f
    rw [if_pos ⟨rfl, e1, e2, hy⟩]
    rw [wrW64, wrW64, u64_w64, u64w]

theorem awake_eq : impl_DecDiv.f 64 [6] [2] = some ([3], [0], true) := by
  have h := div_eq 64 [6] [2] (by intro x hx; simp at hx; omega) (by intro x hx; simp at hx; omega) (by simp [isDec]) (by simp [isDec]) (by omega) (by decide)
  rw [h]
  decide

theorem div_j2 (a0 : Int) (l1 l2 : List Int) (u1 : U64 l1) (u2 : U64 l2) (d1 : isDec a0 l1 = true) (d2 : isDec a0 l2 = true) (ha : ¬ a0 > 64) (hy : sv l2 ≠ 0)
    (lx : (mg (sv l1).natAbs).length ≤ 2) (ly : (mg (sv l2).natAbs).length ≤ 2) (ha4 : a0 = 32 ∨ a0 = 64 ∨ a0 = 128 ∨ a0 = 256) :
    EvT (fun k => laws_FnDecDiv.j2 k a0 l1 l2 true false (wd (sv l1)).1 (wd (sv l1)).2 (wd (sv l2)).1 (wd (sv l2)).2) true := by
  have he := div_eq a0 l1 l2 u1 u2 d1 d2 ha hy
  have lq : (mg (Int.tdiv (sv l1) (sv l2)).natAbs).length ≤ 2 := Nat.le_trans (mg_length_mono (tdiv_b _ _)) lx
  have lr : (mg (Int.tmod (sv l1) (sv l2)).natAbs).length ≤ 2 := Nat.le_trans (mg_length_mono (tmod_b _ _)) lx
  have hw := fun z => wrW_short a0 z ha4
  refine EvT.succ ?_
  simp only [laws_FnDecDiv.j2, Bool.false_eq_true, if_false, he, Option.bind_some, if_true]
  refine EvT.bind (WideDiv_ev (sv l1) (sv l2) hy (by omega) (by omega)) ?_
  refine EvT.bind (wrapped_ev a0 _ ha4 (by omega)) ?_
  refine EvT.bind (wrapped_ev a0 _ ha4 (by omega)) ?_
  refine EvT.bind (same_ev _ _ (hw _)) ?_
  simp only [decide_true, if_true]
  refine EvT.bind (same_ev _ _ (hw _)) ?_
  simp only [decide_true, if_true]
  exact EvT.some_ _

theorem div_skip (a0 : Int) (l1 l2 : List Int) (b c : Bool) (p q : List Int) : EvT (fun k => laws_FnDecDiv.j2 k a0 l1 l2 true true b p c q) true := by
  refine EvT.succ (EvT.of fun k => ?_)
  simp only [laws_FnDecDiv.j2, if_true]

theorem div_j1 (a0 : Int) (l1 l2 : List Int) (u1 : U64 l1) (u2 : U64 l2) : EvT (fun k => laws_FnDecDiv.j1 k a0 l1 l2 true) true := by
  have e1 := decimal_ev a0 l1 u1
  have e2 := decimal_ev a0 l2 u2
  refine EvT.succ ?_
  simp only [laws_FnDecDiv.j1]
  refine EvT.bind e1 (EvT.bind e2 ?_)
  by_cases d1 : isDec a0 l1 = true
  · by_cases d2 : isDec a0 l2 = true
    · simp only [if_pos d1, if_pos d2, if_true]
      by_cases ha : a0 > 64
      · simp only [if_pos ha]; exact div_skip _ _ _ _ _ _ _
      · simp only [if_neg ha, Sign_eq, Option.bind_some]
        by_cases hy : sv l2 = 0
        · rw [hy]
          exact div_skip _ _ _ _ _ _ _
        · have hs : ((if sv l2 < 0 then (-1 : Int) else if sv l2 = 0 then 0 else 1) == 0) = false := by
            rw [beq_eq_false_iff_ne]
            split
            all_goals omega
          simp only [hs]
          have d1' := d1
          have d2' := d2
          simp only [isDec, decide_eq_true_eq] at d1' d2'
          have n1 : l1.length = 1 := by omega
          have n2 : l2.length = 1 := by omega
          refine div_j2 a0 l1 l2 u1 u2 d1 d2 ha hy ?_ ?_ (by omega)
          · rw [sv_one u1 n1]; have := w64_b (rd l1 0); exact len_i64 this.1 this.2
          · rw [sv_one u2 n2]; have := w64_b (rd l2 0); exact len_i64 this.1 this.2
    · simp only [if_pos d1, if_neg d2, if_true, Bool.false_eq_true, if_false]; exact div_skip _ _ _ _ _ _ _
  · simp only [if_neg d1, Bool.false_eq_true, if_false]; exact div_skip _ _ _ _ _ _ _

theorem div_j0 (a0 : Int) (l1 l2 : List Int) (u1 : U64 l1) (u2 : U64 l2) (b : Bool) : EvT (fun k => laws_FnDecDiv.j0 k a0 l1 l2 b) true := by
  refine EvT.succ ?_
  cases b with
  | true => simp only [laws_FnDecDiv.j0, if_true]; exact EvT.some_ _
  | false =>
    simp only [laws_FnDecDiv.j0, Bool.false_eq_true, if_false, awake_eq, Option.bind_some, if_true]
    refine EvT.bind (same_ev [3] [3] (by simp)) ?_
    simp only [decide_true]
    exact div_j1 a0 l1 l2 u1 u2

theorem DecDiv_pure : laws_FnDecDiv.Pure := by
  intro a0 l1 l2 _ _ _ h1 _ _ h2
  suffices h : EvT (fun k => laws_FnDecDiv.f k a0 l1 l2) true by
    obtain ⟨k0, hk⟩ := h
    exact ⟨k0, hk k0 (Nat.le_refl _)⟩
  have u1 := U64_of h1
  have u2 := U64_of h2
  unfold laws_FnDecDiv.f
  split
  · exact div_j0 a0 l1 l2 u1 u2 true
  · exact div_j0 a0 l1 l2 u1 u2 _
end Go.Proofs.Ytiiicmfobljnaaa.M
