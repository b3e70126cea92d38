/- What impl.DecCompared answers, called with decimals. -/
import Derived.Test.YtiiicmfobljnaaaTC2
import Derived.Test.YtiiicmfobljnaaaVD
import Derived.Test.YtiiicmfobljnaaaMC
namespace Go.Proofs.Ytiiicmfobljnaaa.V
set_option linter.unusedVariables false
open Go.RowKit Go.Proofs.YtiiicmfobljnaaaW.PrintWords Go.Proofs.YtiiicmfobljnaaaW.PrintLast Go.Proofs.YtiiicmfobljnaaaW.PrintMore

/-- A word. -/
def W64 (x : Int) : Prop := 0 ≤ x ∧ x < 18446744073709551616
theorem W64_rd {l : List Int} (h : M.U64 l) {i : Nat} (hi : i < l.length) : W64 (rd l (i : Int)) := by rw [M.rd_lt hi]; exact h _ (List.getElem_mem hi)
theorem eq_two {l : List Int} (h : l.length = 2) : l = [rd l 0, rd l 1] := by
  match l, h with
  | [a, b], _ => rfl
theorem eq_four {l : List Int} (h : l.length = 4) : l = [rd l 0, rd l 1, rd l 2, rd l 3] := by
  match l, h with
  | [a, b, c, d], _ => rfl
theorem sv_two' {a b : Int} (ha : 0 ≤ b ∧ b < 18446744073709551616) : M.sv [a, b] = a + 18446744073709551616 * wrap64 b := by
  simp only [M.sv, M.uw, List.getLastD_cons, List.getLastD_nil, List.length_cons, List.length_nil]
  unfold wrap64
  split <;> omega
theorem sv_four' {a b c d : Int} (hd : 0 ≤ d ∧ d < 18446744073709551616) : M.sv [a, b, c, d] = a + 18446744073709551616 * (b + 18446744073709551616 * (c + 18446744073709551616 * wrap64 d)) := by
  simp only [M.sv, M.uw, List.getLastD_cons, List.getLastD_nil, List.length_cons, List.length_nil]
  unfold wrap64
  split <;> omega
/-- The sign of a number. -/
def sgn (z : Int) : Int := if z < 0 then -1 else if z = 0 then 0 else 1
theorem or64 {h : Int} (h0 : -9223372036854775808 ≤ h) (h1 : h < 9223372036854775808) : Go.bits .or .i64 1 (h / 9223372036854775808) = if h < 0 then -1 else 1 := by
  by_cases c : h < 0
  · rw [if_pos c, show h / 9223372036854775808 = -1 by omega]; rfl
  · rw [if_neg c, show h / 9223372036854775808 = 0 by omega]; rfl
theorem or32 {h : Int} (h0 : -2147483648 ≤ h) (h1 : h < 2147483648) : wrap64 (Go.bits .or .i32 1 (h / 2147483648)) = if h < 0 then -1 else 1 := by
  by_cases c : h < 0
  · rw [if_pos c, show h / 2147483648 = -1 by omega, show Go.bits .or .i32 1 (-1) = -1 from rfl]; exact M.w64 (by omega) (by omega)
  · rw [if_neg c, show h / 2147483648 = 0 by omega, show Go.bits .or .i32 1 0 = 1 from rfl]; exact M.w64 (by omega) (by omega)
theorem less128 (x3 x4 y3 y4 : Int) (b3 : W64 x3) (c3 : W64 y3) : decimal128_Num_Less.f x3 x4 y3 y4 = some (decide (x3 + 18446744073709551616 * x4 < y3 + 18446744073709551616 * y4)) := by
  obtain ⟨b3, b3'⟩ := b3
  obtain ⟨c3, c3'⟩ := c3
  unfold decimal128_Num_Less.f
  split
  · rw [decide_eq_true (by omega)]
  · split
    · congr 1; rw [decide_eq_decide]; omega
    · rw [decide_eq_false (by omega)]
theorem lt256_eq (a0 a1 a2 a3 b0 b1 b2 b3 : Int) (h0 : W64 a0) (h1 : W64 a1) (h2 : W64 a2) (h3 : W64 a3) (g0 : W64 b0) (g1 : W64 b1) (g2 : W64 b2) (g3 : W64 b3) :
    lt256 a0 a1 a2 a3 b0 b1 b2 b3 = decide (a0 + 18446744073709551616 * (a1 + 18446744073709551616 * (a2 + 18446744073709551616 * wrap64 a3)) < b0 + 18446744073709551616 * (b1 + 18446744073709551616 * (b2 + 18446744073709551616 * wrap64 b3))) := by
  obtain ⟨h0, h0'⟩ := h0
  obtain ⟨h1, h1'⟩ := h1
  obtain ⟨h2, h2'⟩ := h2
  obtain ⟨h3, h3'⟩ := h3
  obtain ⟨g0, g0'⟩ := g0
  obtain ⟨g1, g1'⟩ := g1
  obtain ⟨g2, g2'⟩ := g2
  obtain ⟨g3, g3'⟩ := g3
  unfold lt256
  have e : a3 ≠ b3 → wrap64 a3 ≠ wrap64 b3 := by unfold wrap64; omega
  have e' : a3 = b3 → wrap64 a3 = wrap64 b3 := fun h => by rw [h]
  generalize wrap64 a3 = p at *
  generalize wrap64 b3 = q at *
  split
  · rw [decide_eq_decide]; omega
  · split
    · rw [decide_eq_decide]; omega
    · split
      · rw [decide_eq_decide]; omega
      · rw [decide_eq_decide]; omega

/-- Decimals of one width: how they compare as integers, and the sign of the first one; of others nothing is said. -/
def impl_DecCompared.f (a0 : Int) (l1 l2 : List Int) : Option (Int × Bool × Bool × Bool × Bool × Bool × Int × Bool) :=
  if M.isDec a0 l1 = true ∧ M.isDec a0 l2 = true ∧ (∀ x ∈ l1, 0 ≤ x ∧ x < 18446744073709551616) ∧ (∀ x ∈ l2, 0 ≤ x ∧ x < 18446744073709551616) then
    some (M.cmpI (M.sv l1) (M.sv l2), M.cmpI (M.sv l1) (M.sv l2) == 0, !decide (a0 < 128) && decide (M.sv l1 < M.sv l2), !decide (a0 < 128) && !decide (M.sv l2 < M.sv l1), !decide (a0 < 128) && decide (M.sv l2 < M.sv l1), !decide (a0 < 128) && !decide (M.sv l1 < M.sv l2), sgn (M.sv l1), true)
  else none
theorem cmp_if (x y : Int) : (if decide (y < x) = true then (1 : Int) else if decide (x < y) = true then -1 else 0) = M.cmpI x y := by
  unfold M.cmpI
  by_cases c : x < y
  · rw [if_neg (by simp; omega), if_pos (by simpa using c), if_pos c]
  · by_cases d : y < x
    · rw [if_pos (by simpa using d), if_neg c, if_pos d]
    · rw [if_neg (by simpa using d), if_neg (by simpa using c), if_neg c, if_neg d]
theorem cmp_ifo (x y : Int) : (if decide (y < x) = true then some (1 : Int) else if decide (x < y) = true then some (-1) else some 0) = some (M.cmpI x y) := by
  rw [← cmp_if]
  split
  · rfl
  · split <;> rfl
theorem cmp_gt (x y : Int) : (if x > y then some (1 : Int) else if x < y then some (-1) else some 0) = some (M.cmpI x y) := by
  unfold M.cmpI
  by_cases c : x < y
  · rw [if_neg (by omega), if_pos c, if_pos c]
  · by_cases d : y < x
    · rw [if_pos d, if_neg c, if_pos d]
    · rw [if_neg d, if_neg c, if_neg c, if_neg d]
set_option maxHeartbeats 2000000 in
theorem impl_DecCompared.calls (a0 : Int) (A1 : Option Addr) (c1 : Nat) (l1 : List Int) (A2 : Option Addr) (c2 : Nat) (l2 : List Int) (r1 : Int) (r2 r3 r4 r5 r6 : Bool) (r7 : Int) (r8 : Bool) (w : World)
    (hr1 : Kd.C (Kd.int .u64) w A1 l1.length l1) (hc1 : l1.length ≤ c1) (hr2 : Kd.C (Kd.int .u64) w A2 l2.length l2) (hc2 : l2.length ≤ c2) (h : impl_DecCompared.f a0 l1 l2 = some (r1, r2, r3, r4, r5, r6, r7, r8)) :
    Calls Try.prog 19 #[.int .i64 a0, .slice A1 l1.length c1, .slice A2 l2.length c2] w fun e w' => e = .returned (.tuple #[.agg #[.int .i64 r1, .bool r2, .bool r3, .bool r4, .bool r5, .bool r6], .int .i64 r7, .bool r8]) ∧ Below w.heap.size w w' := by
  unfold impl_DecCompared.f at h
  split at h
  · next c =>
    obtain ⟨d1, d2, u1, u2⟩ := c
    simp only [Option.some.injEq, Prod.mk.injEq] at h
    obtain ⟨rfl, rfl, rfl, rfl, rfl, rfl, rfl, rfl⟩ := h
    simp only [M.isDec, decide_eq_true_eq] at d1 d2
    obtain ⟨rfl, e1, k1⟩ | ⟨rfl, e1⟩ | ⟨rfl, e1⟩ | ⟨rfl, e1⟩ := d1
    · obtain ⟨_, e2, k2⟩ : _ ∧ _ ∧ _ := by
        obtain h | h | h | h := d2
        · exact h
        all_goals exact absurd h.1 (by decide)
      have x1 := M.dec32 k1
      have x2 := M.dec32 k2
      rw [M.sv_one u1 e1, M.sv_one u2 e2, x1, x2, M.w64_w32, M.w64_w32]
      have hb := M.w32_b (rd l1 0)
      exact cmp32 _ _ _ _ _ _ _ _ _ _ _ _ _ _ _ _ _ _ _ _ w (of32 hr1 e1 x1) (of32 hr2 e2 x2)
        (fun W => (decimal_Decimal32_Cmp.calls _ _ _ W (by unfold decimal_Decimal32_Cmp.f decimal_Decimal32.f; rw [cmp_gt]; rfl)).mono fun _ _ h => ⟨h.1, drawn_below h.2⟩)
        (fun W => (decimal_Decimal32_Sign.calls _ _ W (by
          unfold decimal_Decimal32_Sign.f
          rw [or32 hb.1 hb.2]
          unfold sgn
          by_cases c : wrap32 (rd l1 0) = 0
          · rw [if_pos c, if_neg (by omega), if_pos c]
          · rw [if_neg c, if_neg c])).mono fun _ _ h => ⟨h.1, drawn_below h.2⟩)
    · have e2 : l2.length = 1 := by omega
      rw [M.sv_one u1 e1, M.sv_one u2 e2]
      have hb := M.w64_b (rd l1 0)
      exact cmp64 _ _ _ _ _ _ _ _ _ _ _ _ _ _ _ _ _ _ _ _ w (of64 hr1 e1) (of64 hr2 e2)
        (fun W => (decimal_Decimal64_Cmp.calls _ _ _ W (by unfold decimal_Decimal64_Cmp.f decimal_Decimal64.f; rw [cmp_gt]; rfl)).mono fun _ _ h => ⟨h.1, drawn_below h.2⟩)
        (fun W => (decimal_Decimal64_Sign.calls _ _ W (by
          unfold decimal_Decimal64_Sign.f
          rw [or64 hb.1 hb.2]
          unfold sgn
          by_cases c : wrap64 (rd l1 0) = 0
          · rw [if_pos c, if_neg (by omega), if_pos c]
          · rw [if_neg c, if_neg c])).mono fun _ _ h => ⟨h.1, drawn_below h.2⟩)
    · have e2 : l2.length = 2 := by omega
      have b0 : W64 (rd l1 0) := W64_rd u1 (i := 0) (by omega)
      have b1 : W64 (rd l1 1) := W64_rd u1 (i := 1) (by omega)
      have g0 : W64 (rd l2 0) := W64_rd u2 (i := 0) (by omega)
      have g1 : W64 (rd l2 1) := W64_rd u2 (i := 1) (by omega)
      have s1 : M.sv l1 = rd l1 0 + 18446744073709551616 * wrap64 (rd l1 1) := by have := sv_two' (a := rd l1 0) b1; rw [← eq_two e1] at this; exact this
      have s2 : M.sv l2 = rd l2 0 + 18446744073709551616 * wrap64 (rd l2 1) := by have := sv_two' (a := rd l2 0) g1; rw [← eq_two e2] at this; exact this
      have hl := less128 (rd l1 0) (wrap64 (rd l1 1)) (rd l2 0) (wrap64 (rd l2 1)) b0 g0
      have hg := less128 (rd l2 0) (wrap64 (rd l2 1)) (rd l1 0) (wrap64 (rd l1 1)) g0 b0
      rw [← s1, ← s2] at hl hg
      have hG : decimal128_Num_Greater.f (rd l1 0) (wrap64 (rd l1 1)) (rd l2 0) (wrap64 (rd l2 1)) = some (decide (M.sv l2 < M.sv l1)) := by unfold decimal128_Num_Greater.f; rw [hg]; rfl
      have hs := M.w64_b (rd l1 1)
      rw [show (!decide ((128 : Int) < 128)) = true from rfl, Bool.true_and, Bool.true_and, Bool.true_and, Bool.true_and]
      exact cmp128 _ _ _ _ _ _ _ _ _ _ _ _ _ _ _ _ _ _ _ _ _ _ _ _ w (of128 hr1 e1) (of128 hr2 e2)
        (fun W => (decimal128_Num_Cmp.calls _ _ _ _ _ W (by unfold decimal128_Num_Cmp.f; rw [hG, hl]; simp only [Option.bind_some]; exact cmp_ifo _ _)).mono fun _ _ h => ⟨h.1, h.2⟩)
        (fun W => (decimal128_Num_Less.calls _ _ _ _ _ W hl).mono fun _ _ h => ⟨h.1, h.2⟩)
        (fun W => (decimal128_Num_LessEqual.calls _ _ _ _ _ W (by unfold decimal128_Num_LessEqual.f; rw [hG]; rfl)).mono fun _ _ h => ⟨h.1, h.2⟩)
        (fun W => (decimal128_Num_Greater.calls _ _ _ _ _ W hG).mono fun _ _ h => ⟨h.1, h.2⟩)
        (fun W => (decimal128_Num_GreaterEqual.calls _ _ _ _ _ W (by unfold decimal128_Num_GreaterEqual.f; rw [hl]; rfl)).mono fun _ _ h => ⟨h.1, h.2⟩)
        (fun W => sign128 _ _ _ W (by
          rw [or64 hs.1 hs.2, s1]
          unfold sgn
          obtain ⟨b0, b0'⟩ := b0
          generalize wrap64 (rd l1 1) = p at *
          generalize rd l1 0 = q at *
          clear hl hg hG s1 s2
          by_cases c : q = 0 ∧ p = 0
          · rw [if_pos c, if_neg (by omega), if_pos (by omega)]
          · rw [if_neg c]
            by_cases d : p < 0
            · rw [if_pos d, if_pos (by omega)]
            · rw [if_neg d, if_neg (by omega), if_neg (by omega)]))
    · have e2 : l2.length = 4 := by omega
      have b0 : W64 (rd l1 0) := W64_rd u1 (i := 0) (by omega)
      have b1 : W64 (rd l1 1) := W64_rd u1 (i := 1) (by omega)
      have b2 : W64 (rd l1 2) := W64_rd u1 (i := 2) (by omega)
      have b3 : W64 (rd l1 3) := W64_rd u1 (i := 3) (by omega)
      have g0 : W64 (rd l2 0) := W64_rd u2 (i := 0) (by omega)
      have g1 : W64 (rd l2 1) := W64_rd u2 (i := 1) (by omega)
      have g2 : W64 (rd l2 2) := W64_rd u2 (i := 2) (by omega)
      have g3 : W64 (rd l2 3) := W64_rd u2 (i := 3) (by omega)
      have s1 := sv_four' (a := rd l1 0) (b := rd l1 1) (c := rd l1 2) b3
      rw [← eq_four e1] at s1
      have s2 := sv_four' (a := rd l2 0) (b := rd l2 1) (c := rd l2 2) g3
      rw [← eq_four e2] at s2
      have hl := lt256_eq _ _ _ _ _ _ _ _ b0 b1 b2 b3 g0 g1 g2 g3
      have hg := lt256_eq _ _ _ _ _ _ _ _ g0 g1 g2 g3 b0 b1 b2 b3
      rw [← s1, ← s2] at hl hg
      have hs := M.w64_b (rd l1 3)
      rw [show (!decide ((256 : Int) < 128)) = true from rfl, Bool.true_and, Bool.true_and, Bool.true_and, Bool.true_and]
      exact cmp256 _ _ _ _ _ _ _ _ _ _ _ _ _ _ _ _ _ _ _ _ _ _ _ _ w (of256 hr1 e1) (of256 hr2 e2)
        (fun W => by rw [← cmp_if]; exact cmp256_ _ _ _ _ _ _ _ _ _ _ W hg hl)
        (fun W => less256 _ _ _ _ _ _ _ _ _ W hl)
        (fun W => lessEq256 _ _ _ _ _ _ _ _ _ W hg)
        (fun W => greater256 _ _ _ _ _ _ _ _ _ W hg)
        (fun W => greaterEq256 _ _ _ _ _ _ _ _ _ W hl)
        (fun W => sign256 _ _ _ _ _ W (by
          rw [or64 hs.1 hs.2, s1]
          unfold sgn
          obtain ⟨b0, b0'⟩ := b0
          obtain ⟨b1, b1'⟩ := b1
          obtain ⟨b2, b2'⟩ := b2
          have k : rd l1 3 = 0 ↔ wrap64 (rd l1 3) = 0 := by obtain ⟨b3, b3'⟩ := b3; unfold wrap64; omega
          simp only [k]
          clear hl hg s1 s2 k b3
          generalize wrap64 (rd l1 3) = p at *
          generalize rd l1 0 = q0 at *
          generalize rd l1 1 = q1 at *
          generalize rd l1 2 = q2 at *
          by_cases c : q0 = 0 ∧ q1 = 0 ∧ q2 = 0 ∧ p = 0
          · rw [if_pos c, if_neg (by omega), if_pos (by omega)]
          · rw [if_neg c]
            by_cases d : p < 0
            · rw [if_pos d, if_pos (by omega)]
            · rw [if_neg d, if_neg (by omega), if_neg (by omega)]))
  · cases h
end Go.Proofs.Ytiiicmfobljnaaa.V
