/- What the laws' own helpers about decimals answer: sameWords, wordsOf, FromWords, decimal (without ToWords). -/
import Derived.Test.YtiiicmfobljnaaaVC
import Derived.Test.YtiiicmfobljnaaaM5
import Derived.OpenShut
namespace Go.Proofs.Ytiiicmfobljnaaa.M
open Go.RowKit Go.Proofs.YtiiicmfobljnaaaW.PrintWords Go.Proofs.YtiiicmfobljnaaaW.PrintLast Go.Proofs.YtiiicmfobljnaaaW.PrintMore Go.Proofs.Ytiiicmfobljnaaa.V
attribute [local irreducible] dv BB rd

theorem digs_pow (i : Nat) : (4294967296 : Nat) ^ (2 * i) = 2 ^ (64 * i) := by
  rw [show (4294967296 : Nat) = 2 ^ 32 from by decide, ← Nat.pow_mul]; congr 1; omega
theorem two_len (t : Nat) : (mg ((2 : Int) ^ t).natAbs).length ≤ t + 1 := by rw [natAbs_two]; exact pow_len (by decide) t
theorem rd_lt {l : List Int} {i : Nat} (h : i < l.length) : rd l (i : Int) = l[i] := by rw [rd_nat]; simp [List.getD, h]

/-- sameWords, from a place on. -/
theorem same_l0 (a b : List Int) (hab : a.length = b.length) (ha : a.length < 1073741824) (m : Nat) : ∀ i, a.length - i = m → i ≤ a.length → a.take i = b.take i →
    EvT (fun k => laws_sameWords.l0 k a b (a.length : Int) (i : Int)) (decide (a = b)) := by
  induction m with
  | zero =>
    intro i h1 h2 h3
    have hi : i = a.length := by omega
    have he : a = b := by rw [hi, List.take_length, hab, List.take_length] at h3; exact h3
    refine EvT.succ (EvT.of fun k => ?_)
    simp only [laws_sameWords.l0]
    rw [if_neg (by omega), decide_eq_true he]
  | succ m ih =>
    intro i h1 h2 h3
    have hi : i < a.length := by omega
    have hib : i < b.length := by omega
    by_cases c : a[i] = b[i]
    · have ht : a.take (i + 1) = b.take (i + 1) := by
        rw [List.take_succ_eq_append_getElem hi, List.take_succ_eq_append_getElem hib, h3, c]
      have h := ih (i + 1) (by omega) (by omega) ht
      refine EvT.succ (EvT.congr h fun k => ?_)
      simp only [laws_sameWords.l0]
      rw [if_pos (by omega), if_pos (by omega), if_pos (by omega), if_pos (by omega), if_pos (by rw [rd_lt hi, rd_lt hib, c]), w64s i (by omega)]
    · have hne : a ≠ b := by intro h; subst h; exact c rfl
      refine EvT.succ (EvT.of fun k => ?_)
      simp only [laws_sameWords.l0]
      rw [if_pos (by omega), if_pos (by omega), if_pos (by omega), if_pos (by omega), if_neg (by rw [rd_lt hi, rd_lt hib]; exact c), decide_eq_false hne]
theorem same_ev (a b : List Int) (ha : a.length < 1073741824) : EvT (fun k => laws_sameWords.f k a b) (decide (a = b)) := by
  by_cases c : a.length = b.length
  · have := same_l0 a b c ha _ 0 rfl (by omega) (by simp)
    refine EvT.congr this fun k => ?_
    unfold laws_sameWords.f
    rw [if_pos (by omega)]
    rfl
  · refine EvT.of fun k => ?_
    unfold laws_sameWords.f
    rw [if_neg (by omega), decide_eq_false (by intro h; exact c (by rw [h]))]

/-- How many words a width has. -/
def nW (a0 : Int) : Int := if a0 = 32 ∨ a0 = 64 then 1 else if a0 = 128 then 2 else if a0 = 256 then 4 else 0
def okW (a0 : Int) : Bool := decide (a0 = 32 ∨ a0 = 64 ∨ a0 = 128 ∨ a0 = 256)
theorem wordsOf_ev (a0 : Int) : EvT (fun k => laws_wordsOf.f k a0) (nW a0, okW a0) := by
  refine EvT.succ (EvT.of fun k => ?_)
  unfold laws_wordsOf.f
  by_cases c1 : a0 = 32
  · subst c1; rfl
  · rw [if_neg c1]
    by_cases c2 : a0 = 64
    · subst c2; rfl
    · by_cases c3 : a0 = 128
      · subst c3; simp [laws_wordsOf.j0, nW, okW, show wrap64 2 = 2 from w64 (by omega) (by omega)]
      · by_cases c4 : a0 = 256
        · subst c4; simp [laws_wordsOf.j0, nW, okW, show wrap64 4 = 4 from w64 (by omega) (by omega)]
        · simp [laws_wordsOf.j0, nW, okW, c1, c2, c3, c4]

theorem Sign_eq (z : Int) : spec_Wide_Sign.f (wd z).1 (wd z).2 = some (if z < 0 then -1 else if z = 0 then 0 else 1) := by
  unfold spec_Wide_Sign.f
  by_cases c : z < 0
  · rw [if_pos (by simp [wd, c]), if_pos c]
  · rw [if_neg (by simp [wd, c]), if_neg c]
    by_cases c2 : z = 0
    · subst c2; rw [if_pos (show ((wd 0).2.length : Int) = 0 by simp [wd, mg_zero]), if_pos rfl]
    · have : 0 < (mg z.natAbs).length := mg_length_pos.2 (by omega)
      rw [if_neg (by show ¬ ((mg z.natAbs).length : Int) = 0; omega), if_neg c2]

theorem WideSub_ev (x y : Int) (lx : (mg x.natAbs).length < 268435456) (ly : (mg y.natAbs).length < 268435456) : EvT (fun k => spec_WideSub.f k (wd x).1 (wd x).2 (wd y).1 (wd y).2) (wd (x - y)) := by
  have h1 := Negated_ev y (by omega)
  have h2 := WideAdd_ev x (-y) lx (by rw [Int.natAbs_neg]; exact ly)
  have e : x + -y = x - y := by omega
  rw [e] at h2
  exact EvT.bind h1 (EvT.bind h2 (EvT.some_ _))

/-- Words as an integer without a sign, the lowest first. -/
def uw : List Int → Int
  | [] => 0
  | x :: r => x + 18446744073709551616 * uw r
def U64 (l : List Int) : Prop := ∀ x ∈ l, 0 ≤ x ∧ x < 18446744073709551616
/-- Words as an integer with a sign. -/
def sv (l : List Int) : Int := if l.getLastD 0 < 9223372036854775808 then uw l else uw l - 2 ^ (64 * l.length)

theorem uw_append (a b : List Int) : uw (a ++ b) = uw a + 2 ^ (64 * a.length) * uw b := by
  induction a with
  | nil => simp [uw]
  | cons x r ih =>
    have : (2 : Int) ^ (64 * (r.length + 1)) = 18446744073709551616 * 2 ^ (64 * r.length) := by rw [show 64 * (r.length + 1) = 64 * r.length + 64 by omega, Int.pow_add]; grind
    rw [List.cons_append]
    simp only [uw, List.length_cons]
    rw [ih, this]
    grind
theorem BB_two (n : Nat) : BB (2 * n) = 2 ^ (64 * n) := by
  unfold BB
  rw [show (4294967296 : Int) = 2 ^ 32 by rfl, ← Int.pow_mul]
  congr 1
  omega
theorem uw_bounds {l : List Int} (h : U64 l) : 0 ≤ uw l ∧ uw l < 2 ^ (64 * l.length) := by
  induction l with
  | nil => simp [uw]
  | cons x r ih =>
    have h1 := h x (by simp)
    have h2 := ih (fun y hy => h y (by simp [hy]))
    have : (2 : Int) ^ (64 * (r.length + 1)) = 18446744073709551616 * 2 ^ (64 * r.length) := by rw [show 64 * (r.length + 1) = 64 * r.length + 64 by omega, Int.pow_add]; grind
    simp only [uw, List.length_cons]
    rw [this]
    omega

theorem from_l0 (l : List Int) (hl : U64 l) (hn : l.length < 65536) (r : Bool × List Int)
    (hend : ∀ x3 : List Int, Dg x3 → dv x3 = uw l → x3.length = 2 * l.length → EvT (fun k => spec_FromWords.l0 k l x3 l (l.length : Int) (l.length : Int)) r) (m : Nat) : ∀ i (x3 : List Int), l.length - i = m → i ≤ l.length → Dg x3 → dv x3 = uw (l.take i) → x3.length = 2 * i →
    EvT (fun k => spec_FromWords.l0 k l x3 l (l.length : Int) (i : Int)) r := by
  induction m with
  | zero =>
    intro i x3 h1 h2 h3 h4 h5
    have hi : i = l.length := by omega
    subst hi
    rw [List.take_length] at h4
    exact hend x3 h3 h4 h5
  | succ m ih =>
    intro i x3 h1 h2 h3 h4 h5
    have hi : i < l.length := by omega
    have hb := hl l[i] (List.getElem_mem hi)
    have hd : Dg (x3 ++ [l[i] % 4294967296, l[i] / 4294967296 % 4294967296]) := by
      rw [Dg_append, Dg_cons, Dg_cons]
      exact ⟨h3, by omega, by omega, Dg_nil⟩
    have hv : dv (x3 ++ [l[i] % 4294967296, l[i] / 4294967296 % 4294967296]) = uw (l.take (i + 1)) := by
      rw [dv_append, h4, h5, BB_two, List.take_succ_eq_append_getElem hi, uw_append, List.length_take, Nat.min_eq_left (by omega)]
      have e1 : dv [l[i] % 4294967296, l[i] / 4294967296 % 4294967296] = l[i] := by
        rw [dv_cons, dv_single]; omega
      have e2 : uw [l[i]] = l[i] := by simp [uw]
      rw [e1, e2]
    have h := ih (i + 1) _ (by omega) (by omega) hd hv (by simp; omega)
    refine EvT.succ (EvT.congr h fun k => ?_)
    simp only [spec_FromWords.l0]
    rw [if_pos (by omega), if_pos (by omega), if_pos (by omega), rd_lt hi, Option.bind_some, if_pos (by simp; omega), w64s i (by omega)]
theorem from_ev (l : List Int) (hl : U64 l) (h1 : 1 ≤ l.length) (hn : l.length ≤ 16) : EvT (fun k => spec_FromWords.f k l) (wd (sv l)) := by
  unfold spec_FromWords.f
  refine from_l0 l hl (by omega) _ ?_ _ 0 [] rfl (by omega) Dg_nil (by simp [uw, dv_nil]) rfl
  intro x3 hd hv hlen
  have hw := wide_ev false x3 hd (by omega)
  rw [if_neg (by decide)] at hw
  rw [hv] at hw
  have hub := uw_bounds hl
  have hlast : rd l ((l.length - 1 : Nat) : Int) = l.getLastD 0 := by
    rw [rd_lt (by omega)]
    cases l with
    | nil => simp at h1
    | cons x r => simp [List.getLastD_eq_getLast?, List.getLast?_eq_getElem?]
  have hlb : 0 ≤ l.getLastD 0 ∧ l.getLastD 0 < 18446744073709551616 := by
    rw [← hlast, rd_lt (by omega)]
    exact hl _ (List.getElem_mem _)
  have hlen2 : (mg (uw l).natAbs).length ≤ 2 * l.length := by
    refine mg_length_le ?_
    have : ((uw l).natAbs : Int) = uw l := by omega
    have h3 : (4294967296 : Nat) ^ (2 * l.length) = 2 ^ (64 * l.length) := digs_pow _
    rw [h3]
    have h4 := hub.2
    have h5 : (((2 : Nat) ^ (64 * l.length) : Nat) : Int) = (2 : Int) ^ (64 * l.length) := by simp
    omega
  have hj : EvT (fun k => spec_FromWords.j1 k l (decide (9223372036854775808 ≤ l.getLastD 0)) (wd (uw l)).1 (wd (uw l)).2) (wd (sv l)) := by
    by_cases c : l.getLastD 0 < 9223372036854775808
    · refine EvT.succ (EvT.of fun k => ?_)
      simp only [spec_FromWords.j1]
      rw [decide_eq_false (by omega), if_neg (by decide), sv, if_pos c]
    · have h2 := Two_ev (64 * l.length) (by omega)
      have h3 := WideSub_ev (uw l) (2 ^ (64 * l.length)) (by omega) (by have := two_len (64 * l.length); omega)
      rw [show uw l - 2 ^ (64 * l.length) = sv l by rw [sv, if_neg c]] at h3
      refine EvT.succ (EvT.congr (EvT.bind h2 (h := fun k b => (spec_WideSub.f k (wd (uw l)).1 (wd (uw l)).2 b.1 b.2).bind fun b2 => some (b2.1, b2.2)) (EvT.bind h3 (EvT.some_ _))) fun k => ?_)
      simp only [spec_FromWords.j1]
      rw [decide_eq_true (by omega), if_pos rfl, w64 (n := 64 * (l.length : Int)) (by omega) (by omega), show (64 * (l.length : Int)) = ((64 * l.length : Nat) : Int) by omega]
  refine EvT.succ (EvT.congr (EvT.bind hw (h := fun k b => spec_FromWords.j1 k l (decide (9223372036854775808 ≤ l.getLastD 0)) b.1 b.2) hj) fun k => ?_)
  simp only [spec_FromWords.l0]
  have e1 : wrap64 ((l.length : Int) - 1) = ((l.length - 1 : Nat) : Int) := by rw [w64 (by omega) (by omega)]; omega
  have e2 : ((l.getLastD 0 / 9223372036854775808) == 1) = decide (9223372036854775808 ≤ l.getLastD 0) := by
    by_cases c : 9223372036854775808 ≤ l.getLastD 0
    · rw [decide_eq_true c, beq_iff_eq]; omega
    · rw [decide_eq_false c, beq_eq_false_iff_ne]; omega
  rw [if_neg (by omega)]
  simp only [if_pos (show (l.length : Int) > 0 by omega), e1, if_pos (show (0 : Int) ≤ ((l.length - 1 : Nat) : Int) by omega), if_pos (show ((l.length - 1 : Nat) : Int) < (l.length : Int) by omega), hlast, e2]

/-- These words are a decimal of this width. -/
def isDec (a0 : Int) (l : List Int) : Bool :=
  decide ((a0 = 32 ∧ l.length = 1 ∧ IntKind.u64.wrap (wrap64 (wrap32 (rd l 0))) = rd l 0) ∨ (a0 = 64 ∧ l.length = 1) ∨ (a0 = 128 ∧ l.length = 2) ∨ (a0 = 256 ∧ l.length = 4))
theorem decimal_ev (a0 : Int) (l : List Int) (hl : U64 l) : EvT (fun k => laws_decimal.f k a0 l) (if isDec a0 l = true then ((wd (sv l)).1, (wd (sv l)).2, true) else (false, ([] : List Int), false)) := by
  unfold laws_decimal.f
  refine EvT.bind (wordsOf_ev a0) ?_
  by_cases hw : a0 = 32 ∨ a0 = 64 ∨ a0 = 128 ∨ a0 = 256
  · have hk : okW a0 = true := by simpa [okW] using hw
    simp only [hk, if_true]
    by_cases hlen : (l.length : Int) = nW a0
    · simp only [if_pos hlen]
      have hb : 1 ≤ l.length ∧ l.length ≤ 16 := by
        have : nW a0 = 1 ∨ nW a0 = 2 ∨ nW a0 = 4 := by
          obtain rfl | rfl | rfl | rfl := hw <;> simp [nW]
        omega
      have hf := from_ev l hl hb.1 hb.2
      by_cases c : a0 = 32
      · subst c
        have h1 : l.length = 1 := by have : nW 32 = 1 := rfl; omega
        simp only [if_true, if_pos (show (0 : Int) < (l.length : Int) by omega)]
        by_cases c2 : IntKind.u64.wrap (wrap64 (wrap32 (rd l 0))) = rd l 0
        · rw [if_pos (show isDec 32 l = true by simp [isDec, h1, c2])]
          simp only [if_pos c2]
          exact EvT.bind hf (EvT.some_ _)
        · rw [if_neg (show ¬ isDec 32 l = true by simp [isDec, c2])]
          simp only [if_neg c2]
          exact EvT.some_ _
      · simp only [if_neg c]
        have hd : isDec a0 l = true := by
          obtain rfl | rfl | rfl | rfl := hw
          · exact absurd rfl c
          · have : nW 64 = 1 := rfl
            unfold isDec; exact decide_eq_true (.inr (.inl ⟨rfl, by omega⟩))
          · have : nW 128 = 2 := rfl
            unfold isDec; exact decide_eq_true (.inr (.inr (.inl ⟨rfl, by omega⟩)))
          · have : nW 256 = 4 := rfl
            unfold isDec; exact decide_eq_true (.inr (.inr (.inr ⟨rfl, by omega⟩)))
        rw [if_pos hd]
        exact EvT.bind hf (EvT.some_ _)
    · simp only [if_neg hlen]
      rw [if_neg]
      · exact EvT.some_ _
      · intro hd
        simp only [isDec, decide_eq_true_eq] at hd
        obtain ⟨rfl, h, _⟩ | ⟨rfl, h⟩ | ⟨rfl, h⟩ | ⟨rfl, h⟩ := hd
        · exact hlen (by rw [h]; rfl)
        · exact hlen (by rw [h]; rfl)
        · exact hlen (by rw [h]; rfl)
        · exact hlen (by rw [h]; rfl)
  · have hk : ¬ okW a0 = true := by simpa [okW] using hw
    simp only [if_neg hk]
    rw [if_neg]
    · exact EvT.some_ _
    · intro hd
      simp only [isDec, decide_eq_true_eq] at hd
      omega

theorem rd_single (x : Int) : rd [x] 0 = x := rd_lt (l := [x]) (i := 0) (by simp)
theorem sv_one {l : List Int} (h : U64 l) (h1 : l.length = 1) : sv l = wrap64 (rd l 0) := by
  obtain ⟨x, rfl⟩ := List.length_eq_one_iff.mp h1
  have hx := h x (by simp)
  rw [rd_single]
  simp only [sv, uw, List.getLastD_cons, List.getLastD_nil, List.length_cons, List.length_nil]
  unfold wrap64
  split <;> omega
theorem wrap64_mod (z : Int) : wrap64 (z % 18446744073709551616) = wrap64 z := by unfold wrap64; omega
theorem wrap32_mod (z : Int) : wrap32 (z % 18446744073709551616) = wrap32 z := by unfold wrap32; omega
theorem u64_w64 (z : Int) : IntKind.u64.wrap (wrap64 z) = z % 18446744073709551616 := by rw [u64w]; unfold wrap64; omega
theorem w64_b (z : Int) : -9223372036854775808 ≤ wrap64 z ∧ wrap64 z < 9223372036854775808 := by unfold wrap64; omega
theorem w32_b (z : Int) : -2147483648 ≤ wrap32 z ∧ wrap32 z < 2147483648 := by unfold wrap32; omega
theorem w32 {z : Int} (h0 : -2147483648 ≤ z) (h1 : z < 2147483648) : wrap32 z = z := by unfold wrap32; omega
theorem w64_w32 (z : Int) : wrap64 (wrap32 z) = wrap32 z := by have := w32_b z; exact w64 (by omega) (by omega)
theorem U64_of {l : List Int} (h : ∀ x ∈ l, (Lit.int .u64 x).wf = true) : U64 l := fun x hx => by
  have := bounds_u64 (h x hx)
  omega
theorem dec32 {x : Int} (h : IntKind.u64.wrap (wrap64 (wrap32 x)) = x) : wrap64 x = wrap64 (wrap32 x) := by
  have e : wrap64 (IntKind.u64.wrap (wrap64 (wrap32 x))) = wrap64 (wrap32 x) := by rw [u64_w64, wrap64_mod]
  rw [h] at e
  exact e
end Go.Proofs.Ytiiicmfobljnaaa.M
