/- The plain law of FnUnitConvert: what the printed functions answer is true, whatever the units and the number. -/
import Derived.Test.YtiiicmfobljnaaaDoorV4
import Derived.Test.YtiiicmfobljnaaaDoorM6
import Derived.OpenShut
namespace Go.Proofs.YtiiicmfobljnaaaDoor.M
open Go.RowKit Go.Proofs.YtiiicmfobljnaaaDoorW.PrintWords Go.Proofs.YtiiicmfobljnaaaDoorW.PrintLast Go.Proofs.YtiiicmfobljnaaaDoorW.PrintMore Go.Proofs.YtiiicmfobljnaaaDoor.V

theorem wrap64_mod (z : Int) : wrap64 (z % 18446744073709551616) = wrap64 z := by unfold wrap64; omega
theorem words_one (z : Int) : rd (wordsZ z 1) 0 = z % 18446744073709551616 := by
  show (wordsZ z 1).getD 0 0 = _
  simp [wordsZ, wordZ]
theorem words_one_length (z : Int) : ((wordsZ z 1).length : Int) = 1 := by simp [wordsZ]
attribute [local irreducible] dv BB rd

/-- What is told of a number that is reckoned by the reference and by the package. -/
theorem unit_end (x1 x0 x2 z c : Int) (hc : impl_UnitConvert.f x0 x1 x2 = some (c, true)) (hz : c = wrap64 z) (lz : (mg z.natAbs).length < 65536) :
    EvT (fun k => (spec_ToWords.f k (wd z).1 (wd z).2 1).bind fun bt337 => ((impl_UnitConvert.f x0 x1 x2).bind fun bt341 => (if bt337.2 = true then (if bt341.2 = true then (if 0 < (bt337.1.length : Int) then (if bt341.1 = (wrap64 (rd bt337.1 0)) then (if (1000 : Int) = 1000 then (some true) else (some false)) else (some false)) else (none)) else (some false)) else (if (1000 : Int) = 1000 then (some true) else (some false))))) true := by
  refine EvT.bind (ToWords_ev z 1 (by omega) (by omega) lz) (h := fun _ bt337 => ((impl_UnitConvert.f x0 x1 x2).bind fun bt341 => (if bt337.2 = true then (if bt341.2 = true then (if 0 < (bt337.1.length : Int) then (if bt341.1 = (wrap64 (rd bt337.1 0)) then (if (1000 : Int) = 1000 then (some true) else (some false)) else (some false)) else (none)) else (some false)) else (if (1000 : Int) = 1000 then (some true) else (some false))))) (EvT.of fun k => ?_)
  rw [hc]
  simp only [Option.bind_some, if_true, words_one, words_one_length, wrap64_mod, ← hz]
  split <;> rfl

theorem wd_ten (d : Nat) (hd : d ≤ 9) : (mg ((10 : Int) ^ d).natAbs).length ≤ 10 := by rw [natAbs_ten]; exact Nat.le_trans (pow_len (by decide) d) (by omega)
theorem len_i64 {n : Int} (h0 : -9223372036854775808 ≤ n) (h1 : n < 9223372036854775808) : (mg n.natAbs).length ≤ 2 := mg_length_le (by rw [show (4294967296 : Nat) ^ 2 = 18446744073709551616 from by decide]; omega)

theorem UnitConvert_pure : laws_FnUnitConvert.Pure := by
  intro x0 x1 x2 _ _ w2
  have hb : -9223372036854775808 ≤ x2 ∧ x2 < 9223372036854775808 := by
    have := bounds_i64 w2
    omega
  suffices h : EvT (fun k => laws_FnUnitConvert.f k x0 x1 x2) true by
    obtain ⟨k0, hk⟩ := h
    exact ⟨k0, hk k0 (Nat.le_refl _)⟩
  have e1 : impl_UnitConvert.f 0 1 1 = some (1000, true) := by
    unfold impl_UnitConvert.f convI
    rw [if_pos (by omega), if_pos (by omega), if_neg (by omega), if_pos (by omega), w64 (by omega) (by omega)]
    rfl
  by_cases hg : 0 ≤ x0 ∧ x0 ≤ 3 ∧ 0 ≤ x1 ∧ x1 ≤ 3
  · have hc : impl_UnitConvert.f x0 x1 x2 = some (convI x0 x1 x2, true) := by unfold impl_UnitConvert.f; rw [if_pos hg]
    refine EvT.congr (h := fun k => laws_FnUnitConvert.j0 k x0 x1 x2 1000 true false) ?_ (fun k => ?_)
    · by_cases hlt : x1 > x0
      · obtain ⟨d, hd⟩ : ∃ d : Nat, (d : Int) = x1 - x0 := ⟨(x1 - x0).toNat, by omega⟩
        have hd3 : 1 ≤ d ∧ d ≤ 3 := by omega
        have ht := Ten_ev (3 * d) (by omega)
        have hl := wd_ten (3 * d) (by omega)
        have hm := WideMul_ev x2 (10 ^ (3 * d)) (by have := len_i64 hb.1 hb.2; omega) (by omega)
        have hz : convI x0 x1 x2 = wrap64 (x2 * 10 ^ (3 * d)) := by
          unfold convI
          rw [if_pos (by omega), ← hd]
          obtain rfl | rfl | rfl : d = 1 ∨ d = 2 ∨ d = 3 := by omega
          all_goals rfl
        have hlz : (mg (x2 * 10 ^ (3 * d)).natAbs).length < 65536 := by
          rw [Int.natAbs_mul, natAbs_ten]
          have h1 : x2.natAbs * 10 ^ (3 * d) ≤ 18446744073709551616 * 1000000000 := Nat.mul_le_mul (by omega) (by
            obtain rfl | rfl | rfl : d = 1 ∨ d = 2 ∨ d = 3 := by omega
            all_goals decide)
          have : (mg (x2.natAbs * 10 ^ (3 * d))).length ≤ 4 := mg_length_le (Nat.lt_of_le_of_lt h1 (by decide))
          omega
        have hend := unit_end x1 x0 x2 _ _ hc hz hlz
        have ew : wrap64 (3 * wrap64 (x1 - x0)) = ((3 * d : Nat) : Int) := by
          rw [w64 (n := x1 - x0) (by omega) (by omega), w64 (by omega) (by omega)]; omega
        refine EvT.succ (EvT.congr (EvT.bind (WideInt_ev x2 hb.1 hb.2) (h := fun k b => (spec_Ten.f k ((3 * d : Nat) : Int)).bind fun c => (spec_WideMul.f k b.1 b.2 c.1 c.2).bind fun e => (spec_ToWords.f k e.1 e.2 1).bind fun bt337 => ((impl_UnitConvert.f x0 x1 x2).bind fun bt341 => (if bt337.2 = true then (if bt341.2 = true then (if 0 < (bt337.1.length : Int) then (if bt341.1 = (wrap64 (rd bt337.1 0)) then (if (1000 : Int) = 1000 then (some true) else (some false)) else (some false)) else (none)) else (some false)) else (if (1000 : Int) = 1000 then (some true) else (some false)))))
          (EvT.bind ht (h := fun k c => (spec_WideMul.f k (wd x2).1 (wd x2).2 c.1 c.2).bind fun e => (spec_ToWords.f k e.1 e.2 1).bind fun bt337 => ((impl_UnitConvert.f x0 x1 x2).bind fun bt341 => (if bt337.2 = true then (if bt341.2 = true then (if 0 < (bt337.1.length : Int) then (if bt341.1 = (wrap64 (rd bt337.1 0)) then (if (1000 : Int) = 1000 then (some true) else (some false)) else (some false)) else (none)) else (some false)) else (if (1000 : Int) = 1000 then (some true) else (some false)))))
            (EvT.bind hm (h := fun k e => (spec_ToWords.f k e.1 e.2 1).bind fun bt337 => ((impl_UnitConvert.f x0 x1 x2).bind fun bt341 => (if bt337.2 = true then (if bt341.2 = true then (if 0 < (bt337.1.length : Int) then (if bt341.1 = (wrap64 (rd bt337.1 0)) then (if (1000 : Int) = 1000 then (some true) else (some false)) else (some false)) else (none)) else (some false)) else (if (1000 : Int) = 1000 then (some true) else (some false))))) hend))) fun k => ?_)
        simp only [laws_FnUnitConvert.j0]
        rw [if_neg (by simp)]
        simp only [if_pos hlt, ew]
      · obtain ⟨d, hd⟩ : ∃ d : Nat, (d : Int) = x0 - x1 := ⟨(x0 - x1).toNat, by omega⟩
        have hd3 : d ≤ 3 := by omega
        have ht := Ten_ev (3 * d) (by omega)
        have hl := wd_ten (3 * d) (by omega)
        have hpos : (0 : Int) < 10 ^ (3 * d) := Int.pow_pos (by omega)
        have hm := WideDiv_ev x2 (10 ^ (3 * d)) (by omega) (by have := len_i64 hb.1 hb.2; omega) (by omega)
        have hz : convI x0 x1 x2 = wrap64 (Int.tdiv x2 (10 ^ (3 * d))) := by
          unfold convI
          obtain rfl | rfl | rfl | rfl : d = 0 ∨ d = 1 ∨ d = 2 ∨ d = 3 := by omega
          · rw [if_pos (by omega), if_pos (by omega), Int.mul_one]; simp
          · rw [if_neg (by omega), ← hd]; rfl
          · rw [if_neg (by omega), ← hd]; rfl
          · rw [if_neg (by omega), ← hd]; rfl
        have hlz : (mg (Int.tdiv x2 (10 ^ (3 * d))).natAbs).length < 65536 := by
          have h1 : (mg (Int.tdiv x2 (10 ^ (3 * d))).natAbs).length ≤ (mg x2.natAbs).length := mg_length_mono (by rw [Int.natAbs_tdiv]; exact Nat.div_le_self _ _)
          have := len_i64 hb.1 hb.2
          omega
        have hend := unit_end x1 x0 x2 _ _ hc hz hlz
        have ew : wrap64 (3 * wrap64 (x0 - x1)) = ((3 * d : Nat) : Int) := by
          rw [w64 (n := x0 - x1) (by omega) (by omega), w64 (by omega) (by omega)]; omega
        refine EvT.succ (EvT.congr (EvT.bind (WideInt_ev x2 hb.1 hb.2) (h := fun k b => (spec_Ten.f k ((3 * d : Nat) : Int)).bind fun c => (spec_WideDiv.f k b.1 b.2 c.1 c.2).bind fun e => (spec_ToWords.f k e.1 e.2.1 1).bind fun bt337 => ((impl_UnitConvert.f x0 x1 x2).bind fun bt341 => (if bt337.2 = true then (if bt341.2 = true then (if 0 < (bt337.1.length : Int) then (if bt341.1 = (wrap64 (rd bt337.1 0)) then (if (1000 : Int) = 1000 then (some true) else (some false)) else (some false)) else (none)) else (some false)) else (if (1000 : Int) = 1000 then (some true) else (some false)))))
          (EvT.bind ht (h := fun k c => (spec_WideDiv.f k (wd x2).1 (wd x2).2 c.1 c.2).bind fun e => (spec_ToWords.f k e.1 e.2.1 1).bind fun bt337 => ((impl_UnitConvert.f x0 x1 x2).bind fun bt341 => (if bt337.2 = true then (if bt341.2 = true then (if 0 < (bt337.1.length : Int) then (if bt341.1 = (wrap64 (rd bt337.1 0)) then (if (1000 : Int) = 1000 then (some true) else (some false)) else (some false)) else (none)) else (some false)) else (if (1000 : Int) = 1000 then (some true) else (some false)))))
            (EvT.bind hm (h := fun k e => (spec_ToWords.f k e.1 e.2.1 1).bind fun bt337 => ((impl_UnitConvert.f x0 x1 x2).bind fun bt341 => (if bt337.2 = true then (if bt341.2 = true then (if 0 < (bt337.1.length : Int) then (if bt341.1 = (wrap64 (rd bt337.1 0)) then (if (1000 : Int) = 1000 then (some true) else (some false)) else (some false)) else (none)) else (some false)) else (if (1000 : Int) = 1000 then (some true) else (some false))))) hend))) fun k => ?_)
        simp only [laws_FnUnitConvert.j0]
        rw [if_neg (by simp)]
        simp only [if_neg hlt, ew]
    · unfold laws_FnUnitConvert.f
      rw [e1, Option.bind_some, if_neg (by omega), if_neg (by omega), if_neg (by omega), decide_eq_false (show ¬ x1 > 3 by omega)]
  · refine EvT.congr (h := fun k => laws_FnUnitConvert.j0 k x0 x1 x2 1000 true true) (EvT.succ (EvT.of fun k => ?_)) (fun k => ?_)
    · simp only [laws_FnUnitConvert.j0, if_true]
    · unfold laws_FnUnitConvert.f
      rw [e1, Option.bind_some]
      by_cases c1 : x0 < 0
      · rw [if_pos c1]
      · by_cases c2 : x0 > 3
        · rw [if_neg c1, if_pos c2]
        · by_cases c3 : x1 < 0
          · rw [if_neg c1, if_neg c2, if_pos c3]
          · rw [if_neg c1, if_neg c2, if_neg c3, decide_eq_true (show x1 > 3 by omega)]
end Go.Proofs.YtiiicmfobljnaaaDoor.M
