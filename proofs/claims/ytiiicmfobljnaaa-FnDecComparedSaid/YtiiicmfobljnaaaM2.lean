/- What the reference's functions on integers of any size answer: trim, wide, WideInt, magAdd, magCmp, magSub. -/
import Derived.Test.YtiiicmfobljnaaaV2
import Derived.Test.YtiiicmfobljnaaaM1
namespace Go.Proofs.Ytiiicmfobljnaaa.M
open Go.RowKit Go.Proofs.YtiiicmfobljnaaaW.PrintWords Go.Proofs.YtiiicmfobljnaaaW.PrintLast Go.Proofs.YtiiicmfobljnaaaW.PrintMore Go.Proofs.Ytiiicmfobljnaaa.V

theorem w64 {n : Int} (h0 : -9223372036854775808 ≤ n) (h1 : n < 9223372036854775808) : wrap64 n = n := by unfold wrap64; omega
theorem u64w (n : Int) : IntKind.u64.wrap n = n % 18446744073709551616 := by simp [IntKind.wrap, IntKind.bits, IntKind.signed]
theorem u64i {n : Int} (h0 : 0 ≤ n) (h1 : n < 18446744073709551616) : IntKind.u64.wrap n = n := by rw [u64w]; omega
theorem w64s (i : Nat) (h : i < 1099511627776) : wrap64 ((i : Int) + 1) = ((i + 1 : Nat) : Int) := by rw [w64 (by omega) (by omega)]; omega
theorem rd_nat (l : List Int) (n : Nat) : rd l (n : Int) = l.getD n 0 := by simp [rd]

theorem mg_length_pos {n : Nat} : 0 < (mg n).length ↔ n ≠ 0 := by
  constructor
  · intro h e; subst e; rw [mg_zero] at h; simp at h
  · intro h; exact List.length_pos_iff.2 (mg_ne_nil h)

theorem trim_l0 (n : Nat) : ∀ (l : List Int), l.length = n → Dg l → n < 1099511627776 → EvT (fun k => spec_trim.l0 k l) (mg (dv l).toNat) := by
  induction n with
  | zero =>
    intro l h hd _
    have : l = [] := List.length_eq_zero_iff.1 h
    subst this
    refine EvT.succ (EvT.of fun k => ?_)
    simp only [spec_trim.l0]
    rw [if_neg (by simp), dv_nil, show (0 : Int).toNat = 0 from rfl, mg_zero]
  | succ n ih =>
    intro l h hd hn
    have e1 : wrap64 ((l.length : Int) - 1) = (n : Int) := by rw [h]; rw [w64 (by omega) (by omega)]; omega
    have e2 : dv l = dv (l.take n) + BB n * l.getD n 0 := by rw [← dv_take_succ, dv_take_all l (n + 1) (by omega)]
    by_cases hz : l.getD n 0 = 0
    · refine EvT.succ (EvT.congr (h := fun k => spec_trim.l0 k (l.take n)) ?_ (fun k => ?_))
      · have := ih (l.take n) (by simp; omega) (Dg_take hd n) (by omega)
        rw [e2, hz]; simpa using this
      · simp only [spec_trim.l0]
        rw [e1, if_pos (by omega), if_pos (by omega), if_pos (by omega), if_pos (by rw [rd_nat]; exact hz), if_pos (by omega)]
        rfl
    · refine EvT.succ (EvT.of fun k => ?_)
      simp only [spec_trim.l0]
      rw [e1, if_pos (by omega), if_pos (by omega), if_pos (by omega), if_neg (by rw [rd_nat]; exact hz)]
      congr 1
      refine (mg_dv hd fun hne => ?_).symm
      have : l.getLast hne = l.getD n 0 := by
        rw [List.getLast_eq_getElem, List.getD_eq_getElem?_getD]
        simp only [h, Nat.add_sub_cancel]
        rw [List.getElem?_eq_getElem (by omega)]; rfl
      rw [this]; exact hz
theorem trim_ev (l : List Int) (hd : Dg l) (hn : l.length < 1099511627776) : EvT (fun k => spec_trim.f k l) (mg (dv l).toNat) := trim_l0 l.length l rfl hd hn

theorem wide_ev (neg : Bool) (l : List Int) (hd : Dg l) (hn : l.length < 1099511627776) : EvT (fun k => spec_wide.f k neg l) (wd (if neg = true then - dv l else dv l)) := by
  have hb := dv_bounds hd
  refine EvT.bind (trim_ev l hd hn) (EvT.of fun k => ?_)
  cases neg with
  | true =>
    simp only [if_true]
    have e : (- dv l).natAbs = (dv l).toNat := by omega
    rw [wd, e]
    have : (decide (0 < (mg (dv l).toNat).length)) = decide (- dv l < 0) := by
      rw [decide_eq_decide, mg_length_pos]; omega
    rw [this]
  | false =>
    simp only [Bool.false_eq_true, if_false]
    have e : (dv l).natAbs = (dv l).toNat := by omega
    rw [wd, e]
    have : decide (dv l < 0) = false := by simp; omega
    rw [this]

theorem WideInt_ev (n : Int) (h0 : -9223372036854775808 ≤ n) (h1 : n < 9223372036854775808) : EvT (fun k => spec_WideInt.f k n) (wd n) := by
  by_cases hn : n < 0
  · have e1 : IntKind.u64.wrap (-(IntKind.u64.wrap n)) = -n := by rw [u64w, u64w]; omega
    have hd : Dg [(-n) % 4294967296, ((-n) / 4294967296) % 4294967296] := Dg_cons.2 ⟨by omega, Dg_cons.2 ⟨by omega, Dg_nil⟩⟩
    have hv : dv [(-n) % 4294967296, ((-n) / 4294967296) % 4294967296] = -n := by simp only [dv_cons, dv_nil]; omega
    have := wide_ev true _ hd (by simp)
    rw [hv, if_pos rfl, Int.neg_neg] at this
    refine EvT.congr (h := fun k => (spec_wide.f k true [(-n) % 4294967296, ((-n) / 4294967296) % 4294967296]).bind fun b => some (b.1, b.2)) (EvT.bind this (EvT.some_ _)) (fun k => ?_)
    unfold spec_WideInt.f
    rw [if_pos hn, e1]
  · have e1 : IntKind.u64.wrap n = n := u64i (by omega) (by omega)
    have hd : Dg [n % 4294967296, (n / 4294967296) % 4294967296] := Dg_cons.2 ⟨by omega, Dg_cons.2 ⟨by omega, Dg_nil⟩⟩
    have hv : dv [n % 4294967296, (n / 4294967296) % 4294967296] = n := by simp only [dv_cons, dv_nil]; omega
    have := wide_ev false _ hd (by simp)
    rw [hv, if_neg (by simp)] at this
    refine EvT.congr (h := fun k => (spec_wide.f k false [n % 4294967296, (n / 4294967296) % 4294967296]).bind fun b => some (b.1, b.2)) (EvT.bind this (EvT.some_ _)) (fun k => ?_)
    unfold spec_WideInt.f
    rw [if_neg hn, e1]

theorem Negated_ev (z : Int) (hn : (mg z.natAbs).length < 1099511627776) : EvT (fun k => spec_Wide_Negated.f k (wd z).1 (wd z).2) (wd (-z)) := by
  have := wide_ev (!(wd z).1) (wd z).2 (Dg_mg _) hn
  have e : (if (!(wd z).1) = true then - dv (wd z).2 else dv (wd z).2) = -z := by
    simp only [wd, dv_mg]
    by_cases h : z < 0 <;> simp [h] <;> omega
  rw [e] at this
  exact EvT.bind this (EvT.some_ _)

/-! ### Sums -/
attribute [local irreducible] dv BB rd
/-- The state of magAdd's loop, one digit on. -/
theorem magAdd_step (a b : List Int) (ha : Dg a) (hb : Dg b) (i : Nat) (out : List Int) (c s : Int) (hi : out.length = i) (hd : Dg out) (h0 : 0 ≤ c) (h1 : c ≤ 1)
    (hv : dv out + BB i * c = dv (a.take i) + dv (b.take i)) (hs : s = c + a.getD i 0 + b.getD i 0) :
    (out ++ [s % 4294967296]).length = i + 1 ∧ Dg (out ++ [s % 4294967296]) ∧ 0 ≤ s / 4294967296 ∧ s / 4294967296 ≤ 1 ∧
      dv (out ++ [s % 4294967296]) + BB (i + 1) * (s / 4294967296) = dv (a.take (i + 1)) + dv (b.take (i + 1)) := by
  have ga := Dg_getD ha i
  have gb := Dg_getD hb i
  refine ⟨by simp [hi], Dg_snoc hd (by omega) (by omega), by omega, by omega, ?_⟩
  rw [dv_snoc, hi, dv_take_succ, dv_take_succ, BB_succ]
  have e : s % 4294967296 + 4294967296 * (s / 4294967296) = s := by omega
  have : dv out + BB i * (s % 4294967296) + 4294967296 * BB i * (s / 4294967296) = dv out + BB i * (s % 4294967296 + 4294967296 * (s / 4294967296)) := by grind
  rw [this, e, hs]
  grind

def AddInv (a b : List Int) (M : Nat) (i : Nat) (out : List Int) (c : Int) : Prop :=
  out.length = i ∧ Dg out ∧ 0 ≤ c ∧ c ≤ 1 ∧ dv out + BB i * c = dv (a.take i) + dv (b.take i) ∧ i ≤ M + 1 ∧ (i = M + 1 → c = 0)

theorem magAdd_l0 (a b : List Int) (ha : Dg a) (hb : Dg b) (M : Nat) (la : a.length ≤ M) (lb : b.length ≤ M) (hM : M < 1073741824) (hM2 : M ≤ a.length ∨ M ≤ b.length) (m : Nat) :
    ∀ (i : Nat) (out : List Int) (c : Int), 2 * (M + 1) + c.toNat = m + 2 * i → AddInv a b M i out c →
      ∃ r, EvT (fun k => spec_magAdd.l0 k a b out c (i : Int)) r ∧ Dg r ∧ dv r = dv a + dv b ∧ r.length ≤ M + 1 := by
  induction m using Nat.strongRecOn with
  | ind m ih =>
    intro i out c hm hinv
    obtain ⟨hi, hd, h0, h1, hv, hle, htop⟩ := hinv
    have ga := Dg_getD ha i
    have gb := Dg_getD hb i
    have step : ∀ s : Int, i < M ∨ (i = M ∧ c = 1) → s = c + a.getD i 0 + b.getD i 0 →
        ∃ r, EvT (fun k => spec_magAdd.l0 k a b (out ++ [s % 4294967296]) (s / 4294967296) ((i + 1 : Nat) : Int)) r ∧ Dg r ∧ dv r = dv a + dv b ∧ r.length ≤ M + 1 := by
      intro s hgo hs
      obtain ⟨t1, t2, t3, t4, t5⟩ := magAdd_step a b ha hb i out c s hi hd h0 h1 hv hs
      rcases hgo with hlt | ⟨rfl, rfl⟩
      · exact ih (2 * (M + 1) + (s / 4294967296).toNat - 2 * (i + 1)) (by omega) (i + 1) _ _ (by omega) ⟨t1, t2, t3, t4, t5, by omega, fun e => by omega⟩
      · have e1 : a.getD i 0 = 0 := getD_out (by omega)
        have e2 : b.getD i 0 = 0 := getD_out (by omega)
        have hs1 : s = 1 := by omega
        subst hs1
        exact ih 0 (by omega) (i + 1) _ _ (by rw [show (1 : Int) / 4294967296 = 0 from by decide]; simp) ⟨t1, t2, t3, t4, t5, by omega, fun _ => by decide⟩
    clear ih
    by_cases hia : i < a.length
    · obtain ⟨r, hr, rest⟩ := step (c + a.getD i 0 + b.getD i 0) (.inl (by omega)) rfl
      clear step htop hM2 hm hv
      refine ⟨r, ?_, rest⟩
      refine EvT.succ (EvT.succ (EvT.congr hr fun k => ?_))
      have hout : out.length < 35184372088832 := by omega
      simp only [spec_magAdd.l0, spec_magAdd.j1]
      rw [if_pos (by omega)]
      simp only [if_true]
      rw [if_pos (by omega), if_pos (by omega)]
      by_cases hib : i < b.length
      · rw [if_pos (by omega), if_pos hout, rd_nat, rd_nat, u64i (n := a.getD i 0) (by omega) (by omega), u64i (n := b.getD i 0) (by omega) (by omega), u64i (n := c + a.getD i 0) (by omega) (by omega), u64i (by omega) (by omega), w64s i (by omega)]
      · have := getD_out hib
        rw [if_neg (by omega), if_pos hout, rd_nat, u64i (n := a.getD i 0) (by omega) (by omega), u64i (n := c + a.getD i 0) (by omega) (by omega), w64s i (by omega)]
        rw [this, Int.add_zero]
    · by_cases hib : i < b.length
      · obtain ⟨r, hr, rest⟩ := step (c + a.getD i 0 + b.getD i 0) (.inl (by omega)) rfl
        clear step htop hM2 hm hv
        refine ⟨r, ?_, rest⟩
        refine EvT.succ (EvT.succ (EvT.congr hr fun k => ?_))
        have hout : out.length < 35184372088832 := by omega
        have := getD_out hia
        simp only [spec_magAdd.l0, spec_magAdd.j1]
        rw [if_neg (by omega), if_pos (by omega)]
        simp only [if_true]
        rw [if_neg (by omega), if_pos (by omega), if_pos (by omega), if_pos hout, rd_nat, u64i (n := b.getD i 0) (by omega) (by omega), u64i (n := c + b.getD i 0) (by omega) (by omega), w64s i (by omega)]
        rw [this, Int.add_zero]
      · by_cases hc : c = 1
        · have hiM : i = M := by
            by_cases e : i = M + 1
            · have := htop e; omega
            · rcases hM2 with h | h <;> omega
          have e1 := getD_out hia
          have e2 := getD_out hib
          obtain ⟨r, hr, rest⟩ := step c (.inr ⟨hiM, hc⟩) (by omega)
          clear step htop hM2 hm hv
          refine ⟨r, ?_, rest⟩
          refine EvT.succ (EvT.succ (EvT.congr hr fun k => ?_))
          have hout : out.length < 35184372088832 := by omega
          have hdec : decide (c > 0) = true := by simp; omega
          simp only [spec_magAdd.l0, spec_magAdd.j1]
          rw [if_neg (by omega), if_neg (by omega), if_pos hdec, if_neg (by omega), if_neg (by omega), if_pos hout, w64s i (by omega)]
        · have hc0 : c = 0 := by omega
          clear step htop hM2 hm
          refine ⟨out, ?_, hd, ?_, by omega⟩
          · refine EvT.succ (EvT.succ (EvT.of fun k => ?_))
            have hdec : ¬ decide (c > 0) = true := by simp; omega
            simp only [spec_magAdd.l0, spec_magAdd.j1]
            rw [if_neg (by omega), if_neg (by omega), if_neg hdec]
          · rw [dv_take_all a i (by omega), dv_take_all b i (by omega), hc0, Int.mul_zero] at hv
            omega
theorem magAdd_ev (a b : List Int) (ha : Dg a) (hb : Dg b) (la : a.length < 1073741824) (lb : b.length < 1073741824) :
    ∃ r, EvT (fun k => spec_magAdd.f k a b) r ∧ Dg r ∧ dv r = dv a + dv b ∧ r.length ≤ max a.length b.length + 1 :=
  magAdd_l0 a b ha hb (max a.length b.length) (by omega) (by omega) (by omega) (by omega) _ 0 [] 0 (Nat.add_zero _).symm
    ⟨rfl, Dg_nil, by omega, by omega, by simp [dv_nil], by omega, fun _ => rfl⟩

end Go.Proofs.Ytiiicmfobljnaaa.M
