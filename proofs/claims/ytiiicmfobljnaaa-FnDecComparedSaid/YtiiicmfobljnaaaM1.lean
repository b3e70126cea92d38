/- Plain digits: numbers as lists of digits of base 2^32, the lowest first; no program here. -/
import Derived.Test.YtiiicmfobljnaaaV0
namespace Go.Proofs.Ytiiicmfobljnaaa.M

/-- The number that digits are. -/
def dv : List Int → Int
  | [] => 0
  | d :: r => d + 4294967296 * dv r

/-- Each is a digit. -/
def Dg (l : List Int) : Prop := ∀ d ∈ l, 0 ≤ d ∧ d < 4294967296

theorem dv_nil : dv [] = 0 := rfl
theorem dv_cons (d : Int) (r : List Int) : dv (d :: r) = d + 4294967296 * dv r := rfl

/-- A power of the base. -/
def BB (n : Nat) : Int := 4294967296 ^ n
theorem BB_zero : BB 0 = 1 := rfl
theorem BB_succ (n : Nat) : BB (n + 1) = 4294967296 * BB n := by unfold BB; rw [Int.pow_succ]; grind
theorem BB_pos (n : Nat) : 0 < BB n := by unfold BB; exact Int.pow_pos (by omega)
theorem BB_add (m n : Nat) : BB (m + n) = BB m * BB n := by unfold BB; rw [Int.pow_add]

theorem dv_append (l m : List Int) : dv (l ++ m) = dv l + BB l.length * dv m := by
  induction l with
  | nil => simp [dv_nil, BB_zero]
  | cons d r ih => rw [List.cons_append, dv_cons, dv_cons, ih, List.length_cons, BB_succ]; grind
theorem dv_single (d : Int) : dv [d] = d := by simp [dv]
theorem dv_snoc (l : List Int) (d : Int) : dv (l ++ [d]) = dv l + BB l.length * d := by rw [dv_append, dv_single]

theorem Dg_nil : Dg [] := by intro d hd; cases hd
theorem Dg_cons {d : Int} {r : List Int} : Dg (d :: r) ↔ (0 ≤ d ∧ d < 4294967296) ∧ Dg r := by
  unfold Dg; simp
theorem Dg_append {l m : List Int} : Dg (l ++ m) ↔ Dg l ∧ Dg m := by
  unfold Dg; simp only [List.mem_append]
  exact ⟨fun h => ⟨fun d hd => h d (.inl hd), fun d hd => h d (.inr hd)⟩, fun h d hd => hd.elim (h.1 d) (h.2 d)⟩
theorem Dg_snoc {l : List Int} {d : Int} (h : Dg l) (h0 : 0 ≤ d) (h1 : d < 4294967296) : Dg (l ++ [d]) :=
  Dg_append.2 ⟨h, Dg_cons.2 ⟨⟨h0, h1⟩, Dg_nil⟩⟩
theorem Dg_take {l : List Int} (h : Dg l) (n : Nat) : Dg (l.take n) := fun d hd => h d (List.mem_of_mem_take hd)
theorem Dg_getD {l : List Int} (h : Dg l) (n : Nat) : 0 ≤ l.getD n 0 ∧ l.getD n 0 < 4294967296 := by
  by_cases hn : n < l.length
  · rw [List.getD_eq_getElem?_getD, List.getElem?_eq_getElem hn]; exact h _ (List.getElem_mem hn)
  · rw [List.getD_eq_getElem?_getD, List.getElem?_eq_none (by omega)]; simp
theorem getD_out {l : List Int} {i : Nat} (h : ¬ i < l.length) : l.getD i 0 = 0 := by
  rw [List.getD_eq_getElem?_getD, List.getElem?_eq_none (by omega)]; rfl
theorem Dg_set {l : List Int} (h : Dg l) (n : Nat) {d : Int} (h0 : 0 ≤ d) (h1 : d < 4294967296) : Dg (l.set n d) := by
  intro x hx
  rcases List.mem_or_eq_of_mem_set hx with hx | rfl
  · exact h x hx
  · exact ⟨h0, h1⟩
theorem Dg_replicate (n : Nat) : Dg (List.replicate n 0) := by
  intro d hd; have := (List.mem_replicate.1 hd).2; omega

theorem dv_bounds {l : List Int} (h : Dg l) : 0 ≤ dv l ∧ dv l < BB l.length := by
  induction l with
  | nil => simp [dv_nil, BB_zero]
  | cons d r ih =>
    obtain ⟨⟨h0, h1⟩, hr⟩ := Dg_cons.1 h
    have := ih hr
    rw [dv_cons, List.length_cons, BB_succ]
    omega
theorem dv_replicate (n : Nat) : dv (List.replicate n 0) = 0 := by
  induction n with
  | zero => rfl
  | succ n ih => rw [List.replicate_succ, dv_cons, ih]; omega

/-- Digit after digit. -/
theorem dv_take_succ (l : List Int) (n : Nat) : dv (l.take (n + 1)) = dv (l.take n) + BB n * l.getD n 0 := by
  by_cases hn : n < l.length
  · rw [List.take_succ_eq_append_getElem hn, dv_snoc, List.length_take, List.getD_eq_getElem?_getD, List.getElem?_eq_getElem hn]
    rw [Nat.min_eq_left (by omega)]; rfl
  · rw [List.take_of_length_le (by omega), List.take_of_length_le (by omega), List.getD_eq_getElem?_getD, List.getElem?_eq_none (by omega)]
    simp
theorem dv_take_all (l : List Int) (n : Nat) (h : l.length ≤ n) : dv (l.take n) = dv l := by rw [List.take_of_length_le h]

/-- One digit is turned. -/
theorem dv_set (l : List Int) (n : Nat) (hn : n < l.length) (v : Int) : dv (l.set n v) = dv l + BB n * (v - l.getD n 0) := by
  induction l generalizing n with
  | nil => simp at hn
  | cons d r ih =>
    cases n with
    | zero => simp only [List.set_cons_zero, dv_cons, BB_zero, List.getD_cons_zero]; omega
    | succ n =>
      simp only [List.set_cons_succ, dv_cons, List.getD_cons_succ, BB_succ]
      rw [ih n (by simpa using hn)]; grind

/-! ### The digits of a number -/
def mg (n : Nat) : List Int := if h : n = 0 then [] else ((n % 4294967296 : Nat) : Int) :: mg (n / 4294967296)
termination_by n
decreasing_by omega

theorem mg_zero : mg 0 = [] := by unfold mg; simp
theorem mg_pos {n : Nat} (h : n ≠ 0) : mg n = ((n % 4294967296 : Nat) : Int) :: mg (n / 4294967296) := by
  rw [mg]; simp [h]
theorem dv_mg (n : Nat) : dv (mg n) = n := by
  induction n using Nat.strongRecOn with
  | ind n ih =>
    by_cases h : n = 0
    · subst h; rw [mg_zero]; rfl
    · rw [mg_pos h, dv_cons, ih _ (by omega)]; omega
theorem Dg_mg (n : Nat) : Dg (mg n) := by
  induction n using Nat.strongRecOn with
  | ind n ih =>
    by_cases h : n = 0
    · subst h; rw [mg_zero]; exact Dg_nil
    · rw [mg_pos h]; exact Dg_cons.2 ⟨by omega, ih _ (by omega)⟩
theorem mg_ne_nil {n : Nat} (h : n ≠ 0) : mg n ≠ [] := by rw [mg_pos h]; simp
/-- The highest digit is not zero. -/
def Nm (l : List Int) : Prop := ∀ h : l ≠ [], l.getLast h ≠ 0
theorem Nm_mg (n : Nat) : Nm (mg n) := by
  induction n using Nat.strongRecOn with
  | ind n ih =>
    intro h
    by_cases h0 : n = 0
    · subst h0; rw [mg_zero] at h; exact absurd rfl h
    · by_cases hq : n / 4294967296 = 0
      · have e : mg n = [((n % 4294967296 : Nat) : Int)] := by rw [mg_pos h0, hq, mg_zero]
        simp only [e, List.getLast_singleton]
        omega
      · have hne := mg_ne_nil hq
        have e := mg_pos h0
        have := ih _ (by omega) hne
        simp only [e, List.getLast_cons hne]
        exact this
theorem Nm_tail {d : Int} {r : List Int} (h : Nm (d :: r)) : Nm r := by
  intro hr; have := h (by simp); rwa [List.getLast_cons hr] at this
theorem dv_pos_of_Nm {l : List Int} (hd : Dg l) (hn : Nm l) (hne : l ≠ []) : 0 < dv l := by
  induction l with
  | nil => exact absurd rfl hne
  | cons d r ih =>
    obtain ⟨⟨h0, h1⟩, hr⟩ := Dg_cons.1 hd
    rw [dv_cons]
    by_cases e : r = []
    · subst e; have := hn (by simp); simp at this; simp [dv_nil]; omega
    · have := ih hr (Nm_tail hn) e; omega
/-- Digits without zeros at the end are the digits of their number. -/
theorem mg_dv {l : List Int} (hd : Dg l) (hn : Nm l) : mg (dv l).toNat = l := by
  induction l with
  | nil => rw [dv_nil]; exact mg_zero
  | cons d r ih =>
    obtain ⟨⟨h0, h1⟩, hr⟩ := Dg_cons.1 hd
    have hp := dv_pos_of_Nm hd hn (by simp)
    have hb := dv_bounds hr
    have e := ih hr (Nm_tail hn)
    rw [mg_pos (by omega)]
    rw [dv_cons] at hp ⊢
    have e1 : (d + 4294967296 * dv r).toNat / 4294967296 = (dv r).toNat := by omega
    have e2 : (((d + 4294967296 * dv r).toNat % 4294967296 : Nat) : Int) = d := by omega
    rw [e1, e2, e]
theorem mg_length_le {n m : Nat} (h : n < 4294967296 ^ m) : (mg n).length ≤ m := by
  induction m generalizing n with
  | zero => have : n = 0 := by simpa using h
            subst this; rw [mg_zero]; simp
  | succ m ih =>
    by_cases h0 : n = 0
    · subst h0; rw [mg_zero]; simp
    · rw [mg_pos h0, List.length_cons]
      have := ih (n := n / 4294967296) (by rw [Nat.pow_succ] at h; exact Nat.div_lt_of_lt_mul (by rw [Nat.mul_comm]; exact h))
      omega
theorem mg_lt (n : Nat) : (n : Int) < BB (mg n).length := by have := (dv_bounds (Dg_mg n)).2; rwa [dv_mg] at this
theorem mg_le {n : Nat} (h : n ≠ 0) : BB ((mg n).length - 1) ≤ n := by
  induction n using Nat.strongRecOn with
  | ind n ih =>
    rw [mg_pos h, List.length_cons]
    by_cases hq : n / 4294967296 = 0
    · rw [hq, mg_zero]; simp only [List.length_nil]; simp [BB_zero]; omega
    · have := ih _ (by omega) hq
      have hne := mg_ne_nil hq
      obtain ⟨m, hm⟩ : ∃ m, (mg (n / 4294967296)).length = m + 1 := ⟨(mg (n / 4294967296)).length - 1, by have := List.length_pos_iff.2 hne; omega⟩
      rw [hm] at this ⊢
      simp only [Nat.add_sub_cancel] at this ⊢
      rw [BB_succ]; omega
theorem BB_mono {m n : Nat} (h : m ≤ n) : BB m ≤ BB n := by
  obtain ⟨j, rfl⟩ := Nat.le.dest h
  rw [BB_add]
  have h1 := BB_pos m; have h2 := BB_pos j
  have := Int.mul_le_mul_of_nonneg_left (show (1 : Int) ≤ BB j by omega) (show 0 ≤ BB m by omega)
  omega
theorem mg_length_mono {a b : Nat} (h : a ≤ b) : (mg a).length ≤ (mg b).length := by
  by_cases h0 : a = 0
  · subst h0; rw [mg_zero]; simp
  · have h1 := mg_le h0
    have h2 := mg_lt b
    by_cases hl : (mg a).length ≤ (mg b).length
    · exact hl
    · exfalso
      have h3 := BB_mono (m := (mg b).length) (n := (mg a).length - 1) (by omega)
      omega
theorem dv_toNat {l : List Int} (h : Dg l) : ((dv l).toNat : Int) = dv l := by have := (dv_bounds h).1; omega

/-! ### Answers of functions that are given rounds -/
def EvT {α : Type} (g : Nat → Option α) (r : α) : Prop := ∃ k0, ∀ k, k0 ≤ k → g k = some r
theorem EvT.of {α : Type} {g : Nat → Option α} {r : α} (h : ∀ k, g k = some r) : EvT g r := ⟨0, fun k _ => h k⟩
theorem EvT.congr {α : Type} {g h : Nat → Option α} {r : α} (hh : EvT h r) (e : ∀ k, g k = h k) : EvT g r := by
  obtain ⟨k0, hk⟩ := hh
  exact ⟨k0, fun k hle => (e k).trans (hk k hle)⟩
theorem EvT.bind {α β : Type} {g : Nat → Option α} {h : Nat → α → Option β} {a : α} {r : β} (h1 : EvT g a) (h2 : EvT (fun k => h k a) r) : EvT (fun k => (g k).bind (h k)) r := by
  obtain ⟨k1, hk1⟩ := h1
  obtain ⟨k2, hk2⟩ := h2
  refine ⟨max k1 k2, fun k hk => ?_⟩
  simp only [hk1 k (by omega), Option.bind_some]
  exact hk2 k (by omega)
theorem EvT.succ {α : Type} {g : Nat → Option α} {r : α} (h : EvT (fun k => g (k + 1)) r) : EvT g r := by
  obtain ⟨k0, hk⟩ := h
  refine ⟨k0 + 1, fun k hle => ?_⟩
  obtain ⟨m, rfl⟩ : ∃ m, k = m + 1 := ⟨k - 1, by omega⟩
  exact hk m (by omega)
theorem EvT.some_ {α : Type} (r : α) : EvT (fun _ => some r) r := ⟨0, fun _ _ => rfl⟩

/-- How two numbers compare. -/
def cmpI (x y : Int) : Int := if x < y then -1 else if y < x then 1 else 0

/-- An integer as it stands in memory: its sign and its digits. -/
def wd (z : Int) : Bool × List Int := (decide (z < 0), mg z.natAbs)
end Go.Proofs.Ytiiicmfobljnaaa.M
