/- What the reference's functions on integers of any size answer: magCmp, magSub. -/
import Derived.Test.YtiiicmfobljnaaaM2
namespace Go.Proofs.Ytiiicmfobljnaaa.M
open Go.RowKit Go.Proofs.YtiiicmfobljnaaaW.PrintWords Go.Proofs.YtiiicmfobljnaaaW.PrintLast Go.Proofs.YtiiicmfobljnaaaW.PrintMore Go.Proofs.Ytiiicmfobljnaaa.V

attribute [local irreducible] dv BB rd
/-! ### Compared -/
theorem magCmp_l0 (a b : List Int) (ha : Dg a) (hb : Dg b) (n : Nat) : n ≤ a.length → n ≤ b.length → n < 1073741824 →
    EvT (fun k => spec_magCmp.l0 k a b ((n : Int) - 1)) (cmpI (dv (a.take n)) (dv (b.take n))) := by
  induction n with
  | zero =>
    intro _ _ _
    refine EvT.succ (EvT.of fun k => ?_)
    simp only [spec_magCmp.l0]
    rw [if_neg (by omega)]
    simp [cmpI, dv_nil]
  | succ n ih =>
    intro h1 h2 hn
    have e : ((n + 1 : Nat) : Int) - 1 = (n : Int) := by omega
    have sa := dv_take_succ a n
    have sb := dv_take_succ b n
    have ba := dv_bounds (Dg_take ha n)
    have bb := dv_bounds (Dg_take hb n)
    rw [List.length_take, Nat.min_eq_left (by omega)] at ba bb
    have hB := BB_pos n
    rw [e]
    have key : ∀ x y : Int, x < y → BB n * x + BB n ≤ BB n * y := fun x y h => by
      have := Int.mul_le_mul_of_nonneg_left (show x + 1 ≤ y by omega) (show 0 ≤ BB n by omega)
      rw [Int.mul_add, Int.mul_one] at this
      exact this
    by_cases hlt : a.getD n 0 < b.getD n 0
    · refine EvT.succ (EvT.of fun k => ?_)
      simp only [spec_magCmp.l0]
      rw [if_pos (by omega), if_pos (by omega), if_pos (by omega), if_pos (by omega), rd_nat, rd_nat, if_pos hlt]
      have := key _ _ hlt
      rw [cmpI, if_pos (by omega)]
    · by_cases hgt : b.getD n 0 < a.getD n 0
      · refine EvT.succ (EvT.of fun k => ?_)
        simp only [spec_magCmp.l0]
        rw [if_pos (by omega), if_pos (by omega), if_pos (by omega), if_pos (by omega), rd_nat, rd_nat, if_neg hlt, if_pos hgt]
        have := key _ _ hgt
        rw [cmpI, if_neg (by omega), if_pos (by omega)]
      · have heq : a.getD n 0 = b.getD n 0 := by omega
        have hr := ih (by omega) (by omega) (by omega)
        have hc : cmpI (dv (a.take (n + 1))) (dv (b.take (n + 1))) = cmpI (dv (a.take n)) (dv (b.take n)) := by
          rw [sa, sb, heq]; unfold cmpI
          by_cases h1 : dv (a.take n) < dv (b.take n)
          · rw [if_pos h1, if_pos (by omega)]
          · by_cases h2 : dv (b.take n) < dv (a.take n)
            · rw [if_neg h1, if_pos h2, if_neg (by omega), if_pos (by omega)]
            · rw [if_neg h1, if_neg h2, if_neg (by omega), if_neg (by omega)]
        rw [hc]
        refine EvT.succ (EvT.congr hr fun k => ?_)
        simp only [spec_magCmp.l0]
        rw [if_pos (by omega), if_pos (by omega), if_pos (by omega), if_pos (by omega), rd_nat, rd_nat, if_neg hlt, if_neg (by omega), w64 (by omega) (by omega)]
theorem magCmp_ev (x y : Nat) (lx : (mg x).length < 1073741824) (_ly : (mg y).length < 1073741824) : EvT (fun k => spec_magCmp.f k (mg x) (mg y)) (cmpI x y) := by
  by_cases h : (mg x).length = (mg y).length
  · have := magCmp_l0 (mg x) (mg y) (Dg_mg _) (Dg_mg _) (mg x).length (by omega) (by omega) (by omega)
    rw [dv_take_all _ _ (Nat.le_refl _), dv_take_all _ _ (by omega), dv_mg, dv_mg] at this
    refine EvT.congr this fun k => ?_
    unfold spec_magCmp.f
    rw [if_pos (by omega), w64 (by omega) (by omega)]
  · refine EvT.of fun k => ?_
    unfold spec_magCmp.f
    rw [if_neg (by omega)]
    by_cases hl : (mg x).length < (mg y).length
    · have : x < y := by
        by_cases c : x < y
        · exact c
        · have := mg_length_mono (show y ≤ x by omega); omega
      rw [if_pos (by omega), cmpI, if_pos (by omega)]
    · have : y < x := by
        by_cases c : y < x
        · exact c
        · have := mg_length_mono (show x ≤ y by omega); omega
      rw [if_neg (by omega), cmpI, if_neg (by omega), if_pos (by omega)]

/-! ### Differences -/
theorem magSub_l0 (a b : List Int) (ha : Dg a) (hb : Dg b) (hba : b.length ≤ a.length) (hge : dv b ≤ dv a) (la : a.length < 1073741824) (m : Nat) :
    ∀ (i : Nat) (out : List Int) (c : Int), a.length - i = m → i ≤ a.length → out.length = a.length → Dg out → 0 ≤ c → c ≤ 1 → (∀ j, i ≤ j → out.getD j 0 = a.getD j 0) →
      dv (out.take i) = dv (a.take i) - dv (b.take i) + BB i * c →
      EvT (fun k => spec_magSub.l0 k b out c (a.length : Int) (i : Int)) (mg (dv a - dv b).toNat) := by
  induction m with
  | zero =>
    intro i out c hm hi hl hd h0 h1 hsame hv
    have e : i = a.length := by omega
    subst e
    rw [dv_take_all out _ (by omega), dv_take_all a _ (Nat.le_refl _), dv_take_all b _ hba] at hv
    have hbo := dv_bounds hd
    have hBp := BB_pos a.length
    have hc : c = 0 := by
      by_cases hc : c = 1
      · subst hc; rw [hl] at hbo; omega
      · omega
    have ho : dv out = dv a - dv b := by rw [hv, hc]; omega
    have := trim_ev out hd (by omega)
    rw [ho] at this
    refine EvT.succ (EvT.congr (h := fun k => (spec_trim.f k out).bind fun t => some t) (EvT.bind this (EvT.some_ _)) fun k => ?_)
    simp only [spec_magSub.l0]
    rw [if_neg (by omega)]
  | succ m ih =>
    intro i out c hm hi hl hd h0 h1 hsame hv
    have ga := Dg_getD ha i
    have gb := Dg_getD hb i
    have go := hsame i (Nat.le_refl _)
    have step : ∀ d c', 0 ≤ d → d < 4294967296 → 0 ≤ c' → c' ≤ 1 → d - 4294967296 * c' = a.getD i 0 - c - b.getD i 0 →
        EvT (fun k => spec_magSub.l0 k b (out.set i d) c' (a.length : Int) ((i + 1 : Nat) : Int)) (mg (dv a - dv b).toNat) := by
      intro d c' d0 d1 c0 c1 hdc
      refine ih (i + 1) (out.set i d) c' (by omega) (by omega) (by simp [hl]) (Dg_set hd i d0 d1) c0 c1 (fun j hj => ?_) ?_
      · rw [List.getD_eq_getElem?_getD, List.getElem?_set_ne (by omega), ← List.getD_eq_getElem?_getD]; exact hsame j (by omega)
      · have e1 : (out.set i d).take (i + 1) = out.take i ++ [d] := by
          rw [List.take_succ_eq_append_getElem (by simp; omega)]
          congr 1
          · rw [List.take_set_of_le (Nat.le_refl _)]
          · simp
        rw [e1, dv_snoc, List.length_take, Nat.min_eq_left (by omega), hv, dv_take_succ, dv_take_succ, BB_succ]
        have : d = a.getD i 0 - c - b.getD i 0 + 4294967296 * c' := by omega
        rw [this]; grind
    by_cases hib : i < b.length
    · by_cases hneg : a.getD i 0 - c - b.getD i 0 < 0
      · refine EvT.succ (EvT.congr (step ((a.getD i 0 - c - b.getD i 0 + 4294967296) % 4294967296) 1 (by omega) (by omega) (by omega) (by omega) (by omega)) fun k => ?_)
        simp only [spec_magSub.l0, rd_nat, go, Int.toNat_natCast]
        rw [if_pos (by omega), if_pos (by omega), if_pos (by omega), if_pos (by omega), w64 (n := a.getD i 0) (by omega) (by omega), w64 (n := b.getD i 0) (by omega) (by omega), w64 (n := a.getD i 0 - c) (by omega) (by omega),
          w64 (n := a.getD i 0 - c - b.getD i 0) (by omega) (by omega), w64 (n := a.getD i 0 - c - b.getD i 0 + 4294967296) (by omega) (by omega), if_pos hneg, w64s i (by omega)]
      · refine EvT.succ (EvT.congr (step ((a.getD i 0 - c - b.getD i 0) % 4294967296) 0 (by omega) (by omega) (by omega) (by omega) (by omega)) fun k => ?_)
        simp only [spec_magSub.l0, rd_nat, go, Int.toNat_natCast]
        rw [if_pos (by omega), if_pos (by omega), if_pos (by omega), if_pos (by omega), w64 (n := a.getD i 0) (by omega) (by omega), w64 (n := b.getD i 0) (by omega) (by omega), w64 (n := a.getD i 0 - c) (by omega) (by omega),
          w64 (n := a.getD i 0 - c - b.getD i 0) (by omega) (by omega), if_neg hneg, w64s i (by omega)]
    · have hz := getD_out hib
      by_cases hneg : a.getD i 0 - c < 0
      · refine EvT.succ (EvT.congr (step ((a.getD i 0 - c + 4294967296) % 4294967296) 1 (by omega) (by omega) (by omega) (by omega) (by omega)) fun k => ?_)
        simp only [spec_magSub.l0, rd_nat, go, Int.toNat_natCast]
        rw [if_pos (by omega), if_pos (by omega), if_pos (by omega), if_neg (by omega), w64 (n := a.getD i 0) (by omega) (by omega), w64 (n := a.getD i 0 - c) (by omega) (by omega),
          w64 (n := a.getD i 0 - c + 4294967296) (by omega) (by omega), if_pos hneg, w64s i (by omega)]
      · refine EvT.succ (EvT.congr (step ((a.getD i 0 - c) % 4294967296) 0 (by omega) (by omega) (by omega) (by omega) (by omega)) fun k => ?_)
        simp only [spec_magSub.l0, rd_nat, go, Int.toNat_natCast]
        rw [if_pos (by omega), if_pos (by omega), if_pos (by omega), if_neg (by omega), w64 (n := a.getD i 0) (by omega) (by omega), w64 (n := a.getD i 0 - c) (by omega) (by omega),
          if_neg hneg, w64s i (by omega)]
theorem magSub_ev (a b : List Int) (ha : Dg a) (hb : Dg b) (hba : b.length ≤ a.length) (hge : dv b ≤ dv a) (la : a.length < 1073741824) :
    EvT (fun k => spec_magSub.f k a b) (mg (dv a - dv b).toNat) := by
  have := magSub_l0 a b ha hb hba hge la _ 0 a 0 rfl (by omega) rfl ha (by omega) (by omega) (fun _ _ => rfl) (by simp [dv_nil])
  refine EvT.congr this fun k => ?_
  unfold spec_magSub.f
  simp only [Option.bind_some, List.nil_append, List.length_nil]
  rw [if_pos (by omega)]
  rfl
end Go.Proofs.Ytiiicmfobljnaaa.M
