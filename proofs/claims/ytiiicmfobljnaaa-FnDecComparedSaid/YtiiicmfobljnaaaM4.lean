/- What the reference's functions on integers of any size answer: magMul, WideMul, Ten, WideAdd, WideCmp, Two. -/
import Derived.Test.YtiiicmfobljnaaaM3
namespace Go.Proofs.Ytiiicmfobljnaaa.M
open Go.RowKit Go.Proofs.YtiiicmfobljnaaaW.PrintWords Go.Proofs.YtiiicmfobljnaaaW.PrintLast Go.Proofs.YtiiicmfobljnaaaW.PrintMore Go.Proofs.Ytiiicmfobljnaaa.V
attribute [local irreducible] dv BB rd

theorem mul_digits {x y : Int} (hx : 0 ≤ x ∧ x < 4294967296) (hy : 0 ≤ y ∧ y < 4294967296) : 0 ≤ x * y ∧ x * y ≤ 18446744065119617025 :=
  ⟨Int.mul_nonneg hx.1 hy.1, Int.le_trans (Int.mul_le_mul (show x ≤ 4294967295 by omega) (show y ≤ 4294967295 by omega) hy.1 (by omega)) (by omega)⟩

def MulInv (a b : List Int) (i : Nat) (out : List Int) : Prop :=
  out.length = a.length + b.length ∧ Dg out ∧ (∀ j, i + b.length ≤ j → out.getD j 0 = 0) ∧ dv out = dv (a.take i) * dv b

theorem magMul_l1 (a b : List Int) (ha : Dg a) (hb : Dg b) (la : a.length < 268435456) (lb : b.length < 268435456) (i : Nat) (hi : i < a.length) (r : List Int)
    (hnext : ∀ out, MulInv a b (i + 1) out → EvT (fun k => spec_magMul.l0 k a b out (a.length : Int) ((i + 1 : Nat) : Int)) r) (m : Nat) :
    ∀ (j : Nat) (out : List Int) (c : Int), b.length - j = m → j ≤ b.length → out.length = a.length + b.length → Dg out → 0 ≤ c → c < 4294967296 → (∀ t, i + b.length ≤ t → out.getD t 0 = 0) →
      dv out + BB (i + j) * c = dv (a.take i) * dv b + BB i * (a.getD i 0 * dv (b.take j)) →
      EvT (fun k => spec_magMul.l1 k a b out (i : Int) c (a.length : Int) (i : Int) (b.length : Int) (j : Int)) r := by
  induction m with
  | zero =>
    intro j out c hm hj hl hd h0 h1 hz hv
    have e : j = b.length := by omega
    subst e
    have hzi := hz (i + b.length) (Nat.le_refl _)
    have hn := hnext (out.set (i + b.length) c) ⟨by simp [hl], Dg_set hd _ h0 h1, fun t ht => by
        rw [List.getD_eq_getElem?_getD, List.getElem?_set_ne (by omega), ← List.getD_eq_getElem?_getD]; exact hz t (by omega), by
        rw [dv_set _ _ (by omega), hzi, dv_take_succ, Int.sub_zero, hv, dv_take_all b _ (Nat.le_refl _)]; grind⟩
    refine EvT.succ (EvT.congr hn fun k => ?_)
    simp only [spec_magMul.l1]
    have e2 : (i : Int) + (b.length : Int) = ((i + b.length : Nat) : Int) := by omega
    rw [if_neg (by omega), e2, w64 (n := ((i + b.length : Nat) : Int)) (by omega) (by omega), if_pos (by omega), if_pos (by omega), w64s i (by omega), Int.toNat_natCast,
      show c % 4294967296 = c from by omega]
  | succ m ih =>
    intro j out c hm hj hl hd h0 h1 hz hv
    have ga := Dg_getD ha i
    have gb := Dg_getD hb j
    have go := Dg_getD hd (i + j)
    have gm := mul_digits ga gb
    obtain ⟨v, hvv⟩ : ∃ v, v = c + (a.getD i 0 * b.getD j 0 + out.getD (i + j) 0) := ⟨_, rfl⟩
    have hn := ih (j + 1) (out.set (i + j) (v % 4294967296)) (v / 4294967296) (by omega) (by omega) (by simp [hl]) (Dg_set hd _ (by omega) (by omega)) (by omega) (by omega)
      (fun t ht => by rw [List.getD_eq_getElem?_getD, List.getElem?_set_ne (by omega), ← List.getD_eq_getElem?_getD]; exact hz t ht)
      (by
        rw [dv_set _ _ (by omega), dv_take_succ, show i + (j + 1) = (i + j) + 1 from by omega, BB_succ]
        have e : v % 4294967296 + 4294967296 * (v / 4294967296) = v := by omega
        have e3 : dv out + BB (i + j) * (v % 4294967296 - out.getD (i + j) 0) + 4294967296 * BB (i + j) * (v / 4294967296) = dv out + BB (i + j) * (v % 4294967296 + 4294967296 * (v / 4294967296) - out.getD (i + j) 0) := by grind
        rw [e3, e, hvv, BB_add]
        rw [BB_add] at hv
        grind)
    refine EvT.succ (EvT.congr hn fun k => ?_)
    simp only [spec_magMul.l1]
    have e2 : (i : Int) + (j : Int) = ((i + j : Nat) : Int) := by omega
    rw [if_pos (by omega), if_pos (by omega), if_pos (by omega), if_pos (by omega), if_pos (by omega), e2, w64 (n := ((i + j : Nat) : Int)) (by omega) (by omega), if_pos (by omega), if_pos (by omega),
      Int.toNat_natCast, rd_nat, rd_nat, rd_nat, u64i (n := a.getD i 0) (by omega) (by omega), u64i (n := b.getD j 0) (by omega) (by omega), u64i (n := out.getD (i + j) 0) (by omega) (by omega),
      u64i (n := a.getD i 0 * b.getD j 0) (by omega) (by omega), u64i (n := a.getD i 0 * b.getD j 0 + out.getD (i + j) 0) (by omega) (by omega), ← hvv, u64i (n := v) (by omega) (by omega), w64s j (by omega)]

theorem magMul_l0 (a b : List Int) (ha : Dg a) (hb : Dg b) (la : a.length < 268435456) (lb : b.length < 268435456) (m : Nat) :
    ∀ (i : Nat) (out : List Int), a.length - i = m → i ≤ a.length → MulInv a b i out →
      EvT (fun k => spec_magMul.l0 k a b out (a.length : Int) (i : Int)) (mg (dv a * dv b).toNat) := by
  induction m with
  | zero =>
    intro i out hm hi ⟨hl, hd, _, hv⟩
    have e : i = a.length := by omega
    subst e
    rw [dv_take_all a _ (Nat.le_refl _)] at hv
    have := trim_ev out hd (by omega)
    rw [hv] at this
    refine EvT.succ (EvT.congr (h := fun k => (spec_trim.f k out).bind fun t => some t) (EvT.bind this (EvT.some_ _)) fun k => ?_)
    simp only [spec_magMul.l0]
    rw [if_neg (by omega)]
  | succ m ih =>
    intro i out hm hi ⟨hl, hd, hz, hv⟩
    have := magMul_l1 a b ha hb la lb i (by omega) _ (fun out' h' => ih (i + 1) out' (by omega) (by omega) h') _ 0 out 0 rfl (by omega) hl hd (by omega) (by omega) hz (by simp [dv_nil, hv])
    refine EvT.succ (EvT.congr this fun k => ?_)
    simp only [spec_magMul.l0]
    rw [if_pos (by omega)]
    rfl
theorem getD_replicate (n j : Nat) : (List.replicate n (0 : Int)).getD j 0 = 0 := by
  rw [List.getD_eq_getElem?_getD, List.getElem?_replicate]; split <;> rfl
theorem magMul_ev (a b : List Int) (ha : Dg a) (hb : Dg b) (la : a.length < 268435456) (lb : b.length < 268435456) : EvT (fun k => spec_magMul.f k a b) (mg (dv a * dv b).toNat) := by
  have := magMul_l0 a b ha hb la lb _ 0 (List.replicate (a.length + b.length) 0) rfl (by omega)
    ⟨by simp, Dg_replicate _, fun j _ => getD_replicate _ j, by rw [dv_replicate]; simp [dv_nil]⟩
  refine EvT.congr this fun k => ?_
  unfold spec_magMul.f
  have e2 : (a.length : Int) + (b.length : Int) = ((a.length + b.length : Nat) : Int) := by omega
  rw [e2, w64 (by omega) (by omega), if_pos (by omega), Int.toNat_natCast, if_pos (by omega)]
  rfl

/-! ### Integers -/
theorem dv_wd (z : Int) : dv (wd z).2 = z.natAbs := dv_mg _
theorem natAbs_mul' (x y : Int) : (x.natAbs : Int) * (y.natAbs : Int) = ((x * y).natAbs : Int) := by rw [Int.natAbs_mul]; omega
theorem WideMul_ev (x y : Int) (lx : (mg x.natAbs).length < 268435456) (ly : (mg y.natAbs).length < 268435456) : EvT (fun k => spec_WideMul.f k (wd x).1 (wd x).2 (wd y).1 (wd y).2) (wd (x * y)) := by
  have h1 := magMul_ev (wd x).2 (wd y).2 (Dg_mg _) (Dg_mg _) lx ly
  rw [dv_wd, dv_wd, natAbs_mul', Int.toNat_natCast] at h1
  have hlen : (mg (x * y).natAbs).length ≤ (mg x.natAbs).length + (mg y.natAbs).length := by
    apply mg_length_le
    rw [Int.natAbs_mul, Nat.pow_add]
    have a1 := mg_lt x.natAbs
    have a2 := mg_lt y.natAbs
    have e1 : x.natAbs < 4294967296 ^ (mg x.natAbs).length := by
      have : ((4294967296 ^ (mg x.natAbs).length : Nat) : Int) = BB (mg x.natAbs).length := by unfold BB; simp
      omega
    have e2 : y.natAbs < 4294967296 ^ (mg y.natAbs).length := by
      have : ((4294967296 ^ (mg y.natAbs).length : Nat) : Int) = BB (mg y.natAbs).length := by unfold BB; simp
      omega
    exact Nat.mul_lt_mul'' e1 e2
  have h2 := wide_ev ((wd x).1 != (wd y).1) (mg (x * y).natAbs) (Dg_mg _) (by omega)
  have e : (if ((wd x).1 != (wd y).1) = true then - dv (mg (x * y).natAbs) else dv (mg (x * y).natAbs)) = x * y := by
    rw [dv_mg]
    simp only [wd, bne_iff_ne, ne_eq, decide_eq_decide]
    by_cases hx : x < 0 <;> by_cases hy : y < 0
    · have := Int.mul_pos_of_neg_of_neg hx hy
      simp [hx, hy]; omega
    · have := Int.mul_nonpos_of_nonpos_of_nonneg (show x ≤ 0 by omega) (show 0 ≤ y by omega)
      simp [hx, hy]; omega
    · have := Int.mul_nonpos_of_nonneg_of_nonpos (show 0 ≤ x by omega) (show y ≤ 0 by omega)
      simp [hx, hy]; omega
    · have := Int.mul_nonneg (show 0 ≤ x by omega) (show 0 ≤ y by omega)
      simp [hx, hy]; omega
  rw [e] at h2
  exact EvT.bind h1 (EvT.bind h2 (EvT.some_ _))

theorem pow_len {b : Nat} (hb : b ≤ 4294967296) (i : Nat) : (mg (b ^ i)).length ≤ i + 1 :=
  mg_length_le (Nat.lt_of_le_of_lt (Nat.pow_le_pow_left hb i) (Nat.pow_lt_pow_right (by decide) (by omega)))
theorem natAbs_ten (i : Nat) : ((10 : Int) ^ i).natAbs = 10 ^ i := by rw [Int.natAbs_pow]; rfl
theorem natAbs_two (i : Nat) : ((2 : Int) ^ i).natAbs = 2 ^ i := by rw [Int.natAbs_pow]; rfl

theorem Two_ev (n : Nat) (hn : n ≤ 1048576) : EvT (fun k => spec_Two.f k (n : Int)) (wd (2 ^ n)) := by
  have e1 : Int.tdiv (n : Int) 32 = ((n / 32 : Nat) : Int) := by rw [Int.tdiv_eq_ediv_of_nonneg (by omega)]; omega
  have e2 : Int.tmod (n : Int) 32 = ((n % 32 : Nat) : Int) := by rw [Int.tmod_eq_emod_of_nonneg (by omega)]; omega
  have hp : (2 : Int) ^ (n % 32) < 4294967296 ∧ 0 < (2 : Int) ^ (n % 32) := by
    have : n % 32 < 32 := Nat.mod_lt _ (by decide)
    revert this; generalize n % 32 = t; intro ht
    refine ⟨?_, Int.pow_pos (by omega)⟩
    have := Int.pow_lt_pow_of_lt (a := 2) (by omega) ht
    exact this
  have e3 : shl .u32 1 ((n % 32 : Nat) : Int) = 2 ^ (n % 32) := by
    unfold shl
    rw [show IntKind.u32.bits = 32 from rfl, Int.toNat_natCast, Nat.min_eq_left (by omega), Int.one_mul, IntKind.wrap_u32]
    omega
  have hl : (List.replicate (n / 32 + 1) (0 : Int)).length = n / 32 + 1 := by simp
  have hd := Dg_set (Dg_replicate (n / 32 + 1)) (n / 32) (d := 2 ^ (n % 32)) (by omega) hp.1
  have hv : dv ((List.replicate (n / 32 + 1) 0).set (n / 32) (2 ^ (n % 32))) = 2 ^ n := by
    rw [dv_set _ _ (by omega), dv_replicate, getD_replicate, Int.sub_zero]
    have : n = 32 * (n / 32) + n % 32 := by omega
    conv => rhs; rw [this, Int.pow_add, Int.pow_mul]
    rw [show (2 : Int) ^ 32 = 4294967296 from by decide]
    unfold BB; omega
  have h1 := wide_ev false _ hd (by simp; omega)
  rw [hv, if_neg (by simp)] at h1
  refine EvT.congr (h := fun k => (spec_wide.f k false ((List.replicate (n / 32 + 1) 0).set (n / 32) (2 ^ (n % 32)))).bind fun b => some (b.1, b.2)) (EvT.bind h1 (EvT.some_ _)) fun k => ?_
  unfold spec_Two.f
  rw [e1, e2, w64 (n := ((n / 32 : Nat) : Int)) (by omega) (by omega), w64s (n / 32) (by omega), if_pos (by omega), Int.toNat_natCast, if_pos (by omega), Option.bind_some, if_pos (by omega), if_pos (by omega), if_pos (by rw [hl]; omega), e3, Int.toNat_natCast]

theorem WideCmp_ev (x y : Int) (lx : (mg x.natAbs).length < 268435456) (ly : (mg y.natAbs).length < 268435456) : EvT (fun k => spec_WideCmp.f k (wd x).1 (wd x).2 (wd y).1 (wd y).2) (cmpI x y) := by
  have h1 := magCmp_ev x.natAbs y.natAbs (by omega) (by omega)
  by_cases hx : x < 0
  · have ex : (wd x).1 = true := by simp [wd, hx]
    by_cases hy : y < 0
    · have ey : (wd y).1 = true := by simp [wd, hy]
      have e : wrap64 (-(cmpI (x.natAbs : Int) (y.natAbs : Int))) = cmpI x y := by
        have : -(cmpI (x.natAbs : Int) (y.natAbs : Int)) = cmpI x y ∧ -1 ≤ cmpI x y ∧ cmpI x y ≤ 1 := by
          unfold cmpI; repeat' split
          all_goals omega
        rw [this.1, w64 (by omega) (by omega)]
      refine EvT.congr (h := fun k => spec_WideCmp.j0 k false true (wd x).2 true (wd y).2) (EvT.succ (EvT.succ (EvT.congr (h := fun k => (spec_magCmp.f k (mg x.natAbs) (mg y.natAbs)).bind fun t => some (wrap64 (-t))) (EvT.bind h1 (by rw [e]; exact EvT.some_ _)) fun k => ?_))) fun k => ?_
      · simp only [spec_WideCmp.j0, spec_WideCmp.j1, wd]; simp
      · unfold spec_WideCmp.f; simp [ex, ey]
    · have ey : (wd y).1 = false := by simp [wd]; omega
      refine EvT.congr (h := fun k => spec_WideCmp.j0 k true true (wd x).2 false (wd y).2) (EvT.succ (EvT.of fun k => ?_)) fun k => ?_
      · simp only [spec_WideCmp.j0, if_true]; rw [cmpI, if_pos (by omega)]
      · unfold spec_WideCmp.f; simp [ex, ey]
  · have ex : (wd x).1 = false := by simp [wd]; omega
    by_cases hy : y < 0
    · have ey : (wd y).1 = true := by simp [wd, hy]
      refine EvT.congr (h := fun k => spec_WideCmp.j0 k false false (wd x).2 true (wd y).2) (EvT.succ (EvT.succ (EvT.of fun k => ?_))) fun k => ?_
      · simp only [spec_WideCmp.j0, spec_WideCmp.j1]; simp [cmpI]; omega
      · unfold spec_WideCmp.f; simp [ex, ey]
    · have ey : (wd y).1 = false := by simp [wd]; omega
      have e : cmpI (x.natAbs : Int) (y.natAbs : Int) = cmpI x y := by
        rw [show (x.natAbs : Int) = x from by omega, show (y.natAbs : Int) = y from by omega]
      refine EvT.congr (h := fun k => spec_WideCmp.j0 k false false (wd x).2 false (wd y).2) (EvT.succ (EvT.succ (EvT.congr (h := fun k => (spec_magCmp.f k (mg x.natAbs) (mg y.natAbs)).bind fun t => some t) (EvT.bind h1 (by rw [e]; exact EvT.some_ _)) fun k => ?_))) fun k => ?_
      · simp only [spec_WideCmp.j0, spec_WideCmp.j1, wd]; simp
      · unfold spec_WideCmp.f; simp [ex, ey]

theorem WideAdd_ev (x y : Int) (lx : (mg x.natAbs).length < 268435456) (ly : (mg y.natAbs).length < 268435456) : EvT (fun k => spec_WideAdd.f k (wd x).1 (wd x).2 (wd y).1 (wd y).2) (wd (x + y)) := by
  by_cases hs : (x < 0 ↔ y < 0)
  · obtain ⟨r, hr, hd, hv, hl⟩ := magAdd_ev (wd x).2 (wd y).2 (Dg_mg _) (Dg_mg _) (by simp only [wd]; omega) (by simp only [wd]; omega)
    have h2 := wide_ev (wd x).1 r hd (by simp only [wd] at hl; omega)
    rw [dv_wd, dv_wd] at hv
    have e : (if (wd x).1 = true then - dv r else dv r) = x + y := by
      rw [hv]; simp only [wd, decide_eq_true_eq]; split <;> omega
    rw [e] at h2
    refine EvT.congr (EvT.bind hr (h := fun k t => (spec_wide.f k (wd x).1 t).bind fun b => some (b.1, b.2)) (EvT.bind h2 (EvT.some_ _))) fun k => ?_
    unfold spec_WideAdd.f
    rw [if_pos (by simp only [wd, beq_iff_eq, decide_eq_decide]; exact hs)]
  · have hc := magCmp_ev x.natAbs y.natAbs (by omega) (by omega)
    have hneq : ¬ ((wd x).1 == (wd y).1) = true := by simp only [wd, beq_iff_eq, decide_eq_decide]; exact hs
    by_cases hge : y.natAbs ≤ x.natAbs
    · have hsub := magSub_ev (wd x).2 (wd y).2 (Dg_mg _) (Dg_mg _) (mg_length_mono hge) (by rw [dv_wd, dv_wd]; omega) (by simp only [wd]; omega)
      rw [dv_wd, dv_wd, show ((x.natAbs : Int) - (y.natAbs : Int)).toNat = x.natAbs - y.natAbs from by omega] at hsub
      have hle : (mg (x.natAbs - y.natAbs)).length ≤ (mg x.natAbs).length := mg_length_mono (by omega)
      have h2 := wide_ev (wd x).1 (mg (x.natAbs - y.natAbs)) (Dg_mg _) (by omega)
      rw [dv_mg] at h2
      have e : (if (wd x).1 = true then - ((x.natAbs - y.natAbs : Nat) : Int) else ((x.natAbs - y.natAbs : Nat) : Int)) = x + y := by
        simp only [wd, decide_eq_true_eq]; split <;> omega
      rw [e] at h2
      have hp : cmpI (x.natAbs : Int) (y.natAbs : Int) ≥ 0 := by unfold cmpI; repeat' split
                                                                 all_goals omega
      refine EvT.congr (EvT.bind hc (h := fun k t => if t ≥ 0 then (spec_magSub.f k (wd x).2 (wd y).2).bind fun u => (spec_wide.f k (wd x).1 u).bind fun b => some (b.1, b.2) else (spec_magSub.f k (wd y).2 (wd x).2).bind fun u => (spec_wide.f k (wd y).1 u).bind fun b => some (b.1, b.2)) ?_) fun k => ?_
      · refine EvT.congr (EvT.bind hsub (h := fun k u => (spec_wide.f k (wd x).1 u).bind fun b => some (b.1, b.2)) (EvT.bind h2 (EvT.some_ _))) fun k => ?_
        rw [if_pos hp]
      · unfold spec_WideAdd.f
        rw [if_neg hneq]; rfl
    · have hsub := magSub_ev (wd y).2 (wd x).2 (Dg_mg _) (Dg_mg _) (mg_length_mono (by omega)) (by rw [dv_wd, dv_wd]; omega) (by simp only [wd]; omega)
      rw [dv_wd, dv_wd, show ((y.natAbs : Int) - (x.natAbs : Int)).toNat = y.natAbs - x.natAbs from by omega] at hsub
      have hle : (mg (y.natAbs - x.natAbs)).length ≤ (mg y.natAbs).length := mg_length_mono (by omega)
      have h2 := wide_ev (wd y).1 (mg (y.natAbs - x.natAbs)) (Dg_mg _) (by omega)
      rw [dv_mg] at h2
      have e : (if (wd y).1 = true then - ((y.natAbs - x.natAbs : Nat) : Int) else ((y.natAbs - x.natAbs : Nat) : Int)) = x + y := by
        simp only [wd, decide_eq_true_eq]; split <;> omega
      rw [e] at h2
      have hp : ¬ cmpI (x.natAbs : Int) (y.natAbs : Int) ≥ 0 := by unfold cmpI; rw [if_pos (by omega)]; omega
      refine EvT.congr (EvT.bind hc (h := fun k t => if t ≥ 0 then (spec_magSub.f k (wd x).2 (wd y).2).bind fun u => (spec_wide.f k (wd x).1 u).bind fun b => some (b.1, b.2) else (spec_magSub.f k (wd y).2 (wd x).2).bind fun u => (spec_wide.f k (wd y).1 u).bind fun b => some (b.1, b.2)) ?_) fun k => ?_
      · refine EvT.congr (EvT.bind hsub (h := fun k u => (spec_wide.f k (wd y).1 u).bind fun b => some (b.1, b.2)) (EvT.bind h2 (EvT.some_ _))) fun k => ?_
        rw [if_neg hp]
      · unfold spec_WideAdd.f
        rw [if_neg hneq]; rfl
end Go.Proofs.Ytiiicmfobljnaaa.M
