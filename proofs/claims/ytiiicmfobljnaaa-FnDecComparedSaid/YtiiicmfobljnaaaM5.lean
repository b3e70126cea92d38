/- What the reference's functions on integers of any size answer: magDiv, WideDiv. -/
import Derived.Test.YtiiicmfobljnaaaM4
namespace Go.Proofs.Ytiiicmfobljnaaa.M
open Go.RowKit Go.Proofs.YtiiicmfobljnaaaW.PrintWords Go.Proofs.YtiiicmfobljnaaaW.PrintLast Go.Proofs.YtiiicmfobljnaaaW.PrintMore Go.Proofs.Ytiiicmfobljnaaa.V

/-- A digit of a number. -/
theorem dig_getD (l : List Int) (hd : Dg l) (j : Nat) : l.getD j 0 = (((dv l).toNat / 4294967296 ^ j % 4294967296 : Nat) : Int) := by
  induction l generalizing j with
  | nil => simp [dv_nil]
  | cons d r ih =>
    obtain ⟨⟨h0, h1⟩, hr⟩ := Dg_cons.1 hd
    have hb := dv_bounds hr
    rw [dv_cons]
    cases j with
    | zero => simp only [List.getD_cons_zero, Nat.pow_zero, Nat.div_one]; omega
    | succ j =>
      rw [List.getD_cons_succ, ih hr, Nat.pow_succ, Nat.mul_comm (4294967296 ^ j), ← Nat.div_div_eq_div_mul]
      rw [show (d + 4294967296 * dv r).toNat / 4294967296 = (dv r).toNat from by omega]
theorem wraps_u32 (n : Int) (h₀ : 0 ≤ n) (h₁ : n < 2 ^ 32) : IntKind.u32.wrap n = n := by rw [IntKind.wrap_u32]; omega
attribute [local irreducible] dv BB rd

theorem pow_split (n : Nat) : (2 : Nat) ^ n = 4294967296 ^ (n / 32) * 2 ^ (n % 32) := by
  conv => lhs; rw [show n = 32 * (n / 32) + n % 32 from by omega, Nat.pow_add, Nat.pow_mul]
theorem pow_split' (n : Nat) : BB (n / 32) * 2 ^ (n % 32) = ((2 ^ n : Nat) : Int) := by
  rw [pow_split n]; unfold BB; simp
/-- Bit n of a number, as the program asks it of the number's digits. -/
theorem bit_of (x n : Nat) : Go.bits .and .u32 (shr .u32 (rd (mg x) ((n / 32 : Nat) : Int)) ((n % 32 : Nat) : Int)) 1 = ((x / 2 ^ n % 2 : Nat) : Int) := by
  have hs : n % 32 < 32 := Nat.mod_lt _ (by decide)
  have hg := Dg_getD (Dg_mg x) (n / 32)
  have e1 := dig_getD (mg x) (Dg_mg x) (n / 32)
  rw [dv_mg, Int.toNat_natCast] at e1
  rw [rd_nat, e1]
  generalize hj : n / 32 = j at *
  generalize hs' : n % 32 = s at *
  have e2 : shr .u32 (((x / 4294967296 ^ j % 4294967296 : Nat)) : Int) ((s : Nat) : Int) = ((x / 4294967296 ^ j % 4294967296 / 2 ^ s : Nat) : Int) := by
    unfold shr
    rw [show IntKind.u32.bits = 32 from rfl, Int.toNat_natCast, Nat.min_eq_left (by omega)]
    simp
  rw [e2]
  have hlt : x / 4294967296 ^ j % 4294967296 / 2 ^ s < 4294967296 := Nat.lt_of_le_of_lt (Nat.div_le_self _ _) (Nat.mod_lt _ (by decide))
  obtain ⟨v, hv⟩ : ∃ v, v = x / 4294967296 ^ j % 4294967296 / 2 ^ s := ⟨_, rfl⟩
  rw [← hv] at hlt ⊢
  have e3 := bits_mask .u32 32 (by decide) wraps_u32 1 (by decide) ((v : Nat) : Int) (by omega) (by omega)
  rw [show ((2 : Int) ^ 1 - 1) = 1 from by decide, show ((2 : Int) ^ 1) = 2 from by decide] at e3
  rw [e3]
  have e4 : x / 4294967296 ^ j % 4294967296 / 2 ^ s % 2 = x / 2 ^ n % 2 := by
    have t1 := Nat.testBit_mod_two_pow (x / 4294967296 ^ j) 32 s
    rw [show (2 : Nat) ^ 32 = 4294967296 from by decide, decide_eq_true hs, Bool.true_and, Nat.testBit_eq_decide_div_mod_eq, Nat.testBit_eq_decide_div_mod_eq, decide_eq_decide, Nat.div_div_eq_div_mul] at t1
    rw [show (2 : Nat) ^ n = 4294967296 ^ j * 2 ^ s from by rw [pow_split n, hj, hs']]
    omega
  rw [← hv] at e4
  rw [← e4]
  omega
/-- A digit of a number whose lowest bits are none. -/
theorem low_none (Q n : Nat) (q : List Int) (hd : Dg q) (hv : dv q = ((2 ^ (n + 1) * Q : Nat) : Int)) : q.getD (n / 32) 0 % 2 ^ (n % 32 + 1) = 0 := by
  have hs : n % 32 < 32 := Nat.mod_lt _ (by decide)
  rw [dig_getD q hd, hv, Int.toNat_natCast, Nat.pow_succ, pow_split n]
  generalize n / 32 = j
  generalize n % 32 = s at *
  have e : 4294967296 ^ j * 2 ^ s * 2 * Q / 4294967296 ^ j = 2 ^ (s + 1) * Q := by
    rw [Nat.mul_assoc, Nat.mul_assoc, Nat.mul_div_cancel_left _ (Nat.pow_pos (by decide)), Nat.pow_succ, Nat.mul_assoc]
  have e2 : (4294967296 : Nat) = 2 ^ (s + 1) * 2 ^ (31 - s) := by rw [← Nat.pow_add, show s + 1 + (31 - s) = 32 from by omega]
  have e3 : 2 ^ (s + 1) * Q % 4294967296 = 2 ^ (s + 1) * (Q % 2 ^ (31 - s)) := by
    conv => lhs; rw [e2]
    exact Nat.mul_mod_mul_left _ _ _
  rw [e, e3]
  have : ((2 ^ (s + 1) * (Q % 2 ^ (31 - s)) : Nat) : Int) = 2 ^ (s + 1) * ((Q % 2 ^ (31 - s) : Nat) : Int) := by simp
  rw [this]
  exact Int.mul_emod_right _ _
theorem two_lt {s : Nat} (h : s < 32) : (2 : Int) ^ s < 4294967296 ∧ 0 < (2 : Int) ^ s :=
  ⟨Int.pow_lt_pow_of_lt (a := 2) (c := 32) (by omega) h, Int.pow_pos (by omega)⟩
theorem set_bit (Q n : Nat) (q : List Int) (hd : Dg q) (hv : dv q = ((2 ^ (n + 1) * Q : Nat) : Int)) :
    Go.bits .or .u32 (rd q ((n / 32 : Nat) : Int)) (shl .u32 1 ((n % 32 : Nat) : Int)) = q.getD (n / 32) 0 + 2 ^ (n % 32) ∧ q.getD (n / 32) 0 + 2 ^ (n % 32) < 4294967296 := by
  have hs : n % 32 < 32 := Nat.mod_lt _ (by decide)
  have hg := Dg_getD hd (n / 32)
  have h0 := low_none Q n q hd hv
  have hp := two_lt hs
  have hp1 : (2 : Int) ^ (n % 32) < 2 ^ (n % 32 + 1) := by rw [Int.pow_succ]; omega
  have e3 : shl .u32 1 ((n % 32 : Nat) : Int) = 2 ^ (n % 32) := by
    unfold shl
    rw [show IntKind.u32.bits = 32 from rfl, Int.toNat_natCast, Nat.min_eq_left (by omega), Int.one_mul, IntKind.wrap_u32]
    omega
  rw [rd_nat, e3]
  have e := bits_join .u32 32 (by decide) wraps_u32 (n % 32 + 1) _ _ hg.1 h0 (by omega) (by omega) hp1 (by omega)
  refine ⟨e, ?_⟩
  -- a multiple of 2^(s+1) below 2^32, and 2^s
  obtain ⟨z, hz⟩ := Int.dvd_of_emod_eq_zero h0
  obtain ⟨p, hpp⟩ : ∃ p : Int, p = 2 ^ (n % 32) := ⟨_, rfl⟩
  have hB : (4294967296 : Int) = 2 * p * 2 ^ (31 - n % 32) := by
    rw [hpp, show (2 : Int) * 2 ^ (n % 32) = 2 ^ (n % 32 + 1) from by rw [Int.pow_succ]; omega, ← Int.pow_add, show n % 32 + 1 + (31 - n % 32) = 32 from by omega]
    decide
  rw [Int.pow_succ, ← hpp] at hz
  rw [← hpp] at hp ⊢
  have hz2 : z < 2 ^ (31 - n % 32) := by
    have h1 := hg.2
    rw [hz, hB, Int.mul_comm p 2] at h1
    exact Int.lt_of_mul_lt_mul_left h1 (by omega)
  have h3 : 2 * p * (z + 1) ≤ 2 * p * 2 ^ (31 - n % 32) := Int.mul_le_mul_of_nonneg_left (by omega) (by omega)
  rw [← hB, Int.mul_add, Int.mul_one] at h3
  rw [hz]
  have : p * 2 * z = 2 * p * z := by grind
  omega

theorem cmpI_ge {x y : Int} (h : y ≤ x) : cmpI x y ≥ 0 := by
  unfold cmpI
  rw [if_neg (by omega)]
  split <;> omega
def DivInv (x y n Q R : Nat) (q : List Int) : Prop :=
  q.length = (mg x).length ∧ Dg q ∧ dv q = ((2 ^ n * Q : Nat) : Int) ∧ x / 2 ^ n = y * Q + R ∧ R < y

theorem len_twice {y R : Nat} (hy : y ≠ 0) (h : R ≤ 4294967296 * y) : (mg R).length ≤ (mg y).length + 1 := by
  have h1 := mg_length_mono h
  rw [mg_pos (n := 4294967296 * y) (by omega), List.length_cons, show 4294967296 * y / 4294967296 = y from by omega] at h1
  exact h1

theorem magDiv_j1 (x y n : Nat) (lx : (mg x).length < 16777216) (ly : (mg y).length < 16777216) (hn : n < 32 * (mg x).length) (q r2 : List Int) (Q R2 : Nat)
    (hl : q.length = (mg x).length) (hd : Dg q) (hv : dv q = ((2 ^ (n + 1) * Q : Nat) : Int)) (hq : x / 2 ^ n = y * (2 * Q) + R2) (hR : R2 < 2 * y)
    (hr : Dg r2) (hrv : dv r2 = ((R2 : Nat) : Int)) (hrl : r2.length < 33554432)
    (hnext : ∀ (q' : List Int) (Q' R' : Nat), DivInv x y n Q' R' q' → EvT (fun k => spec_magDiv.l0 k (mg x) (mg y) q' (mg R') ((n : Int) - 1)) (mg (x / y), mg (x % y))) :
    EvT (fun k => spec_magDiv.j1 k (mg x) (mg y) q r2 (n : Int)) (mg (x / y), mg (x % y)) := by
  have h1 := trim_ev r2 hr (by omega)
  rw [hrv, Int.toNat_natCast] at h1
  have hlen := len_twice (y := y) (R := R2) (by omega) (by omega)
  have h2 := magCmp_ev R2 y (by omega) (by omega)
  have w : wrap64 ((n : Int) - 1) = (n : Int) - 1 := w64 (by omega) (by omega)
  have hj : n / 32 < (mg x).length := by clear w; omega
  have e1 : wrap64 (Int.tdiv (n : Int) 32) = ((n / 32 : Nat) : Int) := by
    rw [Int.tdiv_eq_ediv_of_nonneg (by clear w; omega), w64 (by clear w; omega) (by clear w; omega)]; clear w; omega
  have e2 : Int.tmod (n : Int) 32 = ((n % 32 : Nat) : Int) := by rw [Int.tmod_eq_emod_of_nonneg (by clear w e1; omega)]; clear w e1; omega
  by_cases hge : y ≤ R2
  · have hp : cmpI (R2 : Int) (y : Int) ≥ 0 := cmpI_ge (by clear w e1 e2; omega)
    have h3 := magSub_ev (mg R2) (mg y) (Dg_mg _) (Dg_mg _) (mg_length_mono hge) (by rw [dv_mg, dv_mg]; clear w e1 e2; omega) (by clear w e1 e2; omega)
    rw [dv_mg, dv_mg, show ((R2 : Int) - (y : Int)).toNat = R2 - y from by clear w e1 e2; omega] at h3
    obtain ⟨b1, b2⟩ := set_bit Q n q hd hv
    have hg := Dg_getD hd (n / 32)
    have hs := two_lt (Nat.mod_lt n (show 0 < 32 by decide))
    have h4 := hnext (q.set (n / 32) (q.getD (n / 32) 0 + 2 ^ (n % 32))) (2 * Q + 1) (R2 - y) ⟨by simp [hl], Dg_set hd _ (by clear w e1 e2; omega) b2, by
        rw [dv_set _ _ (by rw [hl]; exact hj), hv, show q.getD (n / 32) 0 + 2 ^ (n % 32) - q.getD (n / 32) 0 = 2 ^ (n % 32) from by clear w e1 e2; omega, pow_split', Nat.pow_succ]
        have : 2 ^ n * 2 * Q + 2 ^ n = 2 ^ n * (2 * Q + 1) := by grind
        clear w e1 e2; omega, by rw [hq, Nat.mul_add]; clear w e1 e2; omega, by clear w e1 e2; omega⟩
    refine EvT.succ (EvT.congr (EvT.bind h1 (h := fun k t => (spec_magCmp.f k t (mg y)).bind fun c => if c ≥ 0 then (spec_magSub.f k t (mg y)).bind fun u => spec_magDiv.l0 k (mg x) (mg y) (q.set (n / 32) (q.getD (n / 32) 0 + 2 ^ (n % 32))) u ((n : Int) - 1) else spec_magDiv.l0 k (mg x) (mg y) q t ((n : Int) - 1))
      (EvT.bind h2 (h := fun k c => if c ≥ 0 then (spec_magSub.f k (mg R2) (mg y)).bind fun u => spec_magDiv.l0 k (mg x) (mg y) (q.set (n / 32) (q.getD (n / 32) 0 + 2 ^ (n % 32))) u ((n : Int) - 1) else spec_magDiv.l0 k (mg x) (mg y) q (mg R2) ((n : Int) - 1))
        (EvT.congr (EvT.bind h3 (h := fun k u => spec_magDiv.l0 k (mg x) (mg y) (q.set (n / 32) (q.getD (n / 32) 0 + 2 ^ (n % 32))) u ((n : Int) - 1)) h4) fun k => by rw [if_pos hp]))) fun k => ?_)
    have c1 : (0 : Int) ≤ ((n / 32 : Nat) : Int) := Int.natCast_nonneg _
    have c2 : ((n / 32 : Nat) : Int) < (q.length : Int) := by clear w e1 e2; omega
    have c3 : (0 : Int) ≤ ((n % 32 : Nat) : Int) := Int.natCast_nonneg _
    simp only [spec_magDiv.j1, e1, e2, w, b1, Int.toNat_natCast, if_pos c1, if_pos c2, if_pos c3]
  · have hp : ¬ cmpI (R2 : Int) (y : Int) ≥ 0 := by clear w e1 e2; unfold cmpI; rw [if_pos (by omega)]; omega
    have h4 := hnext q (2 * Q) R2 ⟨hl, hd, by rw [hv, Nat.pow_succ, Nat.mul_assoc], hq, by clear w e1 e2; omega⟩
    refine EvT.succ (EvT.congr (EvT.bind h1 (h := fun k t => (spec_magCmp.f k t (mg y)).bind fun c => if c ≥ 0 then (spec_magSub.f k t (mg y)).bind fun u => (if 0 ≤ (wrap64 (Int.tdiv (n : Int) 32)) then (if (wrap64 (Int.tdiv (n : Int) 32)) < (q.length : Int) then (if 0 ≤ (Int.tmod (n : Int) 32) then (spec_magDiv.l0 k (mg x) (mg y) (q.set ((wrap64 (Int.tdiv (n : Int) 32)) : Int).toNat (Go.bits .or .u32 (rd q (wrap64 (Int.tdiv (n : Int) 32))) (shl .u32 1 (Int.tmod (n : Int) 32)))) u (wrap64 ((n : Int) - 1))) else (none)) else (none)) else (none)) else spec_magDiv.l0 k (mg x) (mg y) q t (wrap64 ((n : Int) - 1)))
      (EvT.bind h2 (h := fun k c => if c ≥ 0 then (spec_magSub.f k (mg R2) (mg y)).bind fun u => (if 0 ≤ (wrap64 (Int.tdiv (n : Int) 32)) then (if (wrap64 (Int.tdiv (n : Int) 32)) < (q.length : Int) then (if 0 ≤ (Int.tmod (n : Int) 32) then (spec_magDiv.l0 k (mg x) (mg y) (q.set ((wrap64 (Int.tdiv (n : Int) 32)) : Int).toNat (Go.bits .or .u32 (rd q (wrap64 (Int.tdiv (n : Int) 32))) (shl .u32 1 (Int.tmod (n : Int) 32)))) u (wrap64 ((n : Int) - 1))) else (none)) else (none)) else (none)) else spec_magDiv.l0 k (mg x) (mg y) q (mg R2) (wrap64 ((n : Int) - 1)))
        (EvT.congr h4 fun k => by rw [if_neg hp, w]))) fun k => ?_)
    simp only [spec_magDiv.j1]

theorem magDiv_l0 (x y : Nat) (lx : (mg x).length < 16777216) (ly : (mg y).length < 16777216) (n : Nat) :
    ∀ (q : List Int) (Q R : Nat), n ≤ 32 * (mg x).length → DivInv x y n Q R q → EvT (fun k => spec_magDiv.l0 k (mg x) (mg y) q (mg R) ((n : Int) - 1)) (mg (x / y), mg (x % y)) := by
  induction n with
  | zero =>
    intro q Q R _ ⟨hl, hd, hv, hq, hR⟩
    simp only [Nat.pow_zero, Nat.div_one, Nat.one_mul] at hq hv
    have h1 := trim_ev q hd (by omega)
    rw [hv, Int.toNat_natCast] at h1
    have eQ : x / y = Q := by
      rw [hq, Nat.mul_add_div (by omega), Nat.div_eq_of_lt hR]; rfl
    have eR : x % y = R := by
      rw [hq, Nat.mul_add_mod, Nat.mod_eq_of_lt hR]
    rw [eQ, eR]
    refine EvT.succ (EvT.congr (EvT.bind h1 (h := fun _ t => some (t, mg R)) (EvT.some_ _)) fun k => ?_)
    simp only [spec_magDiv.l0]
    rw [if_neg (by omega)]
  | succ n ih =>
    intro q Q R hn ⟨hl, hd, hv, hq, hR⟩
    have hnext := fun q' Q' R' h => ih q' Q' R' (by omega) h
    have hlenR : (mg R).length ≤ (mg y).length := mg_length_mono (by omega)
    obtain ⟨t, ht, htd, htv, htl⟩ := magAdd_ev (mg R) (mg R) (Dg_mg _) (Dg_mg _) (by omega) (by omega)
    rw [dv_mg] at htv
    have hhalf : x / 2 ^ (n + 1) = x / 2 ^ n / 2 := by rw [Nat.pow_succ, Nat.div_div_eq_div_mul]
    have hbit := bit_of x n
    have hj : n / 32 < (mg x).length := by omega
    have e0 : ((n + 1 : Nat) : Int) - 1 = (n : Int) := by omega
    rw [e0]
    rw [hhalf] at hq
    have hmul : y * (2 * Q) = 2 * (y * Q) := by grind
    have go : ∀ k (u : List Int → Option (List Int × List Int)) (v : Option (List Int × List Int)), (x / 2 ^ n % 2 = 1 → u t = v) → (¬ x / 2 ^ n % 2 = 1 → spec_magDiv.j1 k (mg x) (mg y) q t (n : Int) = v) →
        (if 0 ≤ (wrap64 (Int.tdiv (n : Int) 32)) then (if (wrap64 (Int.tdiv (n : Int) 32)) < ((mg x).length : Int) then (if 0 ≤ (Int.tmod (n : Int) 32) then (if (Go.bits .and .u32 (shr .u32 (rd (mg x) (wrap64 (Int.tdiv (n : Int) 32))) (Int.tmod (n : Int) 32)) 1) = 1 then u t else (spec_magDiv.j1 k (mg x) (mg y) q t (n : Int))) else (none)) else (none)) else (none)) = v := by
      intro k u v h1 h2
      have e1 : wrap64 (Int.tdiv (n : Int) 32) = ((n / 32 : Nat) : Int) := by
        rw [Int.tdiv_eq_ediv_of_nonneg (by omega), w64 (by omega) (by omega)]; omega
      have e2 : Int.tmod (n : Int) 32 = ((n % 32 : Nat) : Int) := by rw [Int.tmod_eq_emod_of_nonneg (by clear e1; omega)]; clear e1; omega
      rw [e1, e2, hbit, if_pos (by clear e1 e2; omega), if_pos (by clear e1 e2; omega), if_pos (by clear e1 e2; omega)]
      by_cases hb : x / 2 ^ n % 2 = 1
      · rw [if_pos (by clear e1 e2; omega)]; exact h1 hb
      · rw [if_neg (by clear e1 e2; omega)]; exact h2 hb
    by_cases hb : x / 2 ^ n % 2 = 1
    · obtain ⟨u, hu, hud, huv, hul⟩ := magAdd_ev t [1] htd (Dg_cons.2 ⟨by omega, Dg_nil⟩) (by omega) (by simp)
      rw [dv_single] at huv
      simp only [List.length_singleton] at hul
      have h5 := magDiv_j1 x y n lx ly (by omega) q u Q (2 * R + 1) hl hd hv (by omega) (by omega) hud (by omega) (by omega) hnext
      refine EvT.succ (EvT.congr (EvT.bind ht (h := fun k t => if 0 ≤ (wrap64 (Int.tdiv (n : Int) 32)) then (if (wrap64 (Int.tdiv (n : Int) 32)) < ((mg x).length : Int) then (if 0 ≤ (Int.tmod (n : Int) 32) then (if (Go.bits .and .u32 (shr .u32 (rd (mg x) (wrap64 (Int.tdiv (n : Int) 32))) (Int.tmod (n : Int) 32)) 1) = 1 then ((spec_magAdd.f k t (([1] : List Int))).bind fun t208 => (spec_magDiv.j1 k (mg x) (mg y) q t208 (n : Int))) else (spec_magDiv.j1 k (mg x) (mg y) q t (n : Int))) else (none)) else (none)) else (none))
        (EvT.congr (EvT.bind hu (h := fun k t208 => spec_magDiv.j1 k (mg x) (mg y) q t208 (n : Int)) h5) fun k => go k (fun t => (spec_magAdd.f k t [1]).bind fun t208 => spec_magDiv.j1 k (mg x) (mg y) q t208 (n : Int)) _ (fun _ => rfl) (fun h => absurd hb h))) fun k => ?_)
      simp only [spec_magDiv.l0]
      rw [if_pos (by omega)]
    · have h5 := magDiv_j1 x y n lx ly (by omega) q t Q (2 * R) hl hd hv (by omega) (by omega) htd (by omega) (by omega) hnext
      refine EvT.succ (EvT.congr (EvT.bind ht (h := fun k t => if 0 ≤ (wrap64 (Int.tdiv (n : Int) 32)) then (if (wrap64 (Int.tdiv (n : Int) 32)) < ((mg x).length : Int) then (if 0 ≤ (Int.tmod (n : Int) 32) then (if (Go.bits .and .u32 (shr .u32 (rd (mg x) (wrap64 (Int.tdiv (n : Int) 32))) (Int.tmod (n : Int) 32)) 1) = 1 then ((spec_magAdd.f k t (([1] : List Int))).bind fun t208 => (spec_magDiv.j1 k (mg x) (mg y) q t208 (n : Int))) else (spec_magDiv.j1 k (mg x) (mg y) q t (n : Int))) else (none)) else (none)) else (none))
        (EvT.congr h5 fun k => go k (fun t => (spec_magAdd.f k t [1]).bind fun t208 => spec_magDiv.j1 k (mg x) (mg y) q t208 (n : Int)) _ (fun h => absurd h hb) (fun _ => rfl))) fun k => ?_)
      simp only [spec_magDiv.l0]
      rw [if_pos (by omega)]

theorem magDiv_ev (x y : Nat) (hy : y ≠ 0) (lx : (mg x).length < 16777216) (ly : (mg y).length < 16777216) : EvT (fun k => spec_magDiv.f k (mg x) (mg y)) (mg (x / y), mg (x % y)) := by
  have hx : x / 2 ^ (32 * (mg x).length) = 0 := by
    rw [Nat.div_eq_of_lt]
    have := mg_lt x
    rw [Nat.pow_mul, show (2 : Nat) ^ 32 = 4294967296 from by decide]
    have e : BB (mg x).length = ((4294967296 ^ (mg x).length : Nat) : Int) := by unfold BB; simp
    omega
  have h := magDiv_l0 x y lx ly (32 * (mg x).length) (List.replicate (mg x).length 0) 0 0 (Nat.le_refl _) ⟨by simp, Dg_replicate _, by rw [dv_replicate]; simp, by rw [hx]; simp, by omega⟩
  rw [mg_zero] at h
  refine EvT.congr h fun k => ?_
  unfold spec_magDiv.f
  rw [if_pos (by omega), Int.toNat_natCast, if_pos (by omega), w64 (n := 32 * ((mg x).length : Int)) (by omega) (by omega), w64 (by omega) (by omega)]
  rw [show 32 * ((mg x).length : Int) - 1 = ((32 * (mg x).length : Nat) : Int) - 1 from by omega]

theorem WideDiv_ev (x y : Int) (hy : y ≠ 0) (lx : (mg x.natAbs).length < 16777216) (ly : (mg y.natAbs).length < 16777216) :
    EvT (fun k => spec_WideDiv.f k (wd x).1 (wd x).2 (wd y).1 (wd y).2) ((wd (Int.tdiv x y)).1, (wd (Int.tdiv x y)).2, (wd (Int.tmod x y)).1, (wd (Int.tmod x y)).2) := by
  have h1 := magDiv_ev x.natAbs y.natAbs (by omega) lx ly
  have l1 : (mg (x.natAbs / y.natAbs)).length ≤ (mg x.natAbs).length := mg_length_mono (Nat.div_le_self _ _)
  have l2 : (mg (x.natAbs % y.natAbs)).length ≤ (mg x.natAbs).length := mg_length_mono (Nat.mod_le _ _)
  have h2 := wide_ev ((wd x).1 != (wd y).1) (mg (x.natAbs / y.natAbs)) (Dg_mg _) (by omega)
  have h3 := wide_ev (wd x).1 (mg (x.natAbs % y.natAbs)) (Dg_mg _) (by omega)
  rw [dv_mg] at h2 h3
  have e2 : (if ((wd x).1 != (wd y).1) = true then - ((x.natAbs / y.natAbs : Nat) : Int) else ((x.natAbs / y.natAbs : Nat) : Int)) = Int.tdiv x y := by
    simp only [wd, bne_iff_ne, ne_eq, decide_eq_decide]
    obtain ⟨a, ha⟩ := Int.eq_nat_or_neg x
    obtain ⟨b, hb⟩ := Int.eq_nat_or_neg y
    rcases ha with rfl | rfl <;> rcases hb with rfl | rfl
    · simp only [Int.natAbs_natCast]
      rw [if_neg (by omega)]; rfl
    · simp only [Int.natAbs_natCast, Int.natAbs_neg, Int.tdiv_neg]
      rw [if_pos (by omega)]; rfl
    · simp only [Int.natAbs_natCast, Int.natAbs_neg, Int.neg_tdiv]
      by_cases h0 : a = 0
      · subst h0; simp
      · rw [if_pos (by omega)]; rfl
    · simp only [Int.natAbs_natCast, Int.natAbs_neg, Int.neg_tdiv, Int.tdiv_neg, Int.neg_neg]
      by_cases h0 : a = 0
      · subst h0; simp
      · rw [if_neg (by omega)]; rfl
  have e3 : (if (wd x).1 = true then - ((x.natAbs % y.natAbs : Nat) : Int) else ((x.natAbs % y.natAbs : Nat) : Int)) = Int.tmod x y := by
    simp only [wd, decide_eq_true_eq]
    obtain ⟨a, ha⟩ := Int.eq_nat_or_neg x
    obtain ⟨b, hb⟩ := Int.eq_nat_or_neg y
    rcases ha with rfl | rfl <;> rcases hb with rfl | rfl
    · simp only [Int.natAbs_natCast]
      rw [if_neg (by omega)]; rfl
    · simp only [Int.natAbs_natCast, Int.natAbs_neg, Int.tmod_neg]
      rw [if_neg (by omega)]; rfl
    · simp only [Int.natAbs_natCast, Int.natAbs_neg, Int.neg_tmod]
      by_cases h0 : a = 0
      · subst h0; simp
      · rw [if_pos (by omega)]; rfl
    · simp only [Int.natAbs_natCast, Int.natAbs_neg, Int.neg_tmod, Int.tmod_neg]
      by_cases h0 : a = 0
      · subst h0; simp
      · rw [if_pos (by omega)]; rfl
  rw [e2] at h2
  rw [e3] at h3
  exact EvT.bind h1 (EvT.bind h2 (EvT.bind h3 (EvT.some_ _)))
end Go.Proofs.Ytiiicmfobljnaaa.M
