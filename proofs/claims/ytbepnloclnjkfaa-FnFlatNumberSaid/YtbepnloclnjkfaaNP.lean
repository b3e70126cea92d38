/- The plain law of FnFlatNumber. -/
import Derived.Test.YtbepnloclnjkfaaNV2
import Derived.OpenShut
namespace Go.Proofs.Ytbepnloclnjkfaa.M
open Go.RowKit Go.Proofs.YtbepnloclnjkfaaW.PrintWords Go.Proofs.YtbepnloclnjkfaaW.PrintLast Go.Proofs.YtbepnloclnjkfaaW.PrintMore Go.Proofs.Ytbepnloclnjkfaa.V
set_option linter.unusedVariables false
def EvT {α : Type} (g : Nat → Option α) (r : α) : Prop := ∃ k0, ∀ k, k0 ≤ k → g k = some r
theorem EvT.of {α : Type} {g : Nat → Option α} {r : α} (h : ∀ k, g k = some r) : EvT g r := ⟨0, fun k _ => h k⟩
theorem EvT.congr {α : Type} {g h : Nat → Option α} {r : α} (hh : EvT h r) (e : ∀ k, g k = h k) : EvT g r := by
  obtain ⟨k0, hk⟩ := hh
  exact ⟨k0, fun k hle => (e k).trans (hk k hle)⟩
theorem EvT.bind {α β : Type} {g : Nat → Option α} {h : Nat → α → Option β} {a : α} {r : β} (h1 : EvT g a) (h2 : EvT (fun k => h k a) r) : EvT (fun k => (g k).bind (h k)) r := by
  obtain ⟨k1, hk1⟩ := h1
  obtain ⟨k2, hk2⟩ := h2
  refine ⟨max k1 k2, fun k hk => ?_⟩
  show (g k).bind (h k) = some r
  rw [hk1 k (by omega)]
  exact hk2 k (by omega)
theorem EvT.succ {α : Type} {g : Nat → Option α} {r : α} (h : EvT (fun k => g (k + 1)) r) : EvT g r := by
  obtain ⟨k0, hk⟩ := h
  refine ⟨k0 + 1, fun k hle => ?_⟩
  obtain ⟨m, rfl⟩ : ∃ m, k = m + 1 := ⟨k - 1, by omega⟩
  exact hk m (by omega)
theorem EvT.some_ {α : Type} (r : α) : EvT (fun _ => some r) r := ⟨0, fun _ _ => rfl⟩
theorem w64 {n : Int} (h0 : -9223372036854775808 ≤ n) (h1 : n < 9223372036854775808) : wrap64 n = n := by unfold wrap64; omega
theorem rd_lt {l : List Int} {i : Nat} (h : i < l.length) : rd l (i : Int) = l[i] := by simp [rd, List.getD, h]
def By (l : List Int) : Prop := ∀ x ∈ l, 0 ≤ x ∧ x < 256
theorem in_step (k : Nat) (a : Int) (i : Nat) (hi : i < 4) : spec_in.l0 (k + 1) a [1, 2, 4, 8] 4 (i : Int) = if a = rd [1, 2, 4, 8] (i : Int) then some true else spec_in.l0 k a [1, 2, 4, 8] 4 ((i + 1 : Nat) : Int) := by
  simp only [spec_in.l0]
  rw [if_pos (by omega), if_pos (by omega), if_pos (by simp; omega), w64 (by omega) (by omega)]
  rfl
theorem in_end (k : Nat) (a : Int) : spec_in.l0 (k + 1) a [1, 2, 4, 8] 4 ((4 : Nat) : Int) = some false := by
  simp only [spec_in.l0]
  rw [if_neg (by omega)]
/-- OneOf of four numbers. -/
theorem oneOf_ev (a : Int) : EvT (fun k => spec_OneOf.f k a [1, 2, 4, 8]) (decide (a = 1 ∨ a = 2 ∨ a = 4 ∨ a = 8)) := by
  have h : EvT (fun k => spec_in.f k a [1, 2, 4, 8]) (decide (a = 1 ∨ a = 2 ∨ a = 4 ∨ a = 8)) := by
    refine EvT.succ (EvT.succ (EvT.succ (EvT.succ (EvT.succ (EvT.of fun k => ?_)))))
    show spec_in.l0 (k + 1 + 1 + 1 + 1 + 1) a [1, 2, 4, 8] 4 ((0 : Nat) : Int) = _
    rw [in_step _ _ 0 (by omega), in_step _ _ 1 (by omega), in_step _ _ 2 (by omega), in_step _ _ 3 (by omega), in_end]
    rw [show rd [1, 2, 4, 8] ((0 : Nat) : Int) = 1 from rfl, show rd [1, 2, 4, 8] ((1 : Nat) : Int) = 2 from rfl, show rd [1, 2, 4, 8] ((2 : Nat) : Int) = 4 from rfl, show rd [1, 2, 4, 8] ((3 : Nat) : Int) = 8 from rfl]
    by_cases c1 : a = 1
    · rw [if_pos c1, decide_eq_true (by omega)]
    · rw [if_neg c1]
      by_cases c2 : a = 2
      · rw [if_pos c2, decide_eq_true (by omega)]
      · rw [if_neg c2]
        by_cases c3 : a = 4
        · rw [if_pos c3, decide_eq_true (by omega)]
        · rw [if_neg c3]
          by_cases c4 : a = 8
          · rw [if_pos c4, decide_eq_true (by omega)]
          · rw [if_neg c4, decide_eq_false (by omega)]
  exact EvT.bind h (EvT.some_ _)
theorem bval_b {l : List Int} (h : By l) : 0 ≤ bval l ∧ bval l < 256 ^ l.length := by
  induction l with
  | nil => simp [bval]
  | cons x r ih =>
    have h1 := h x (by simp)
    have h2 := ih (fun y hy => h y (by simp [hy]))
    have e : (256 : Int) ^ (r.length + 1) = 256 ^ r.length * 256 := Int.pow_succ _ _
    simp only [bval, List.length_cons]
    rw [e]
    omega
theorem or_u64 (a x : Int) (ha : 0 ≤ a) (ha2 : a < 72057594037927936) (hx : 0 ≤ x) (hx2 : x < 256) : Go.bits .or .u64 (IntKind.u64.wrap (a * 256)) (IntKind.u64.wrap x) = x + 256 * a := by
  have w1 : IntKind.u64.wrap (a * 256) = a * 256 := by simp [IntKind.wrap, IntKind.bits, IntKind.signed]; omega
  have w2 : IntKind.u64.wrap x = x := by simp [IntKind.wrap, IntKind.bits, IntKind.signed]; omega
  rw [w1, w2]
  obtain ⟨A, rfl⟩ := Int.eq_ofNat_of_zero_le ha
  obtain ⟨X, rfl⟩ := Int.eq_ofNat_of_zero_le hx
  rw [show ((A : Int) * 256) = ((2 ^ 8 * A : Nat) : Int) by omega, u64_or_nat _ _ (by omega) (by omega), ← Nat.two_pow_add_eq_or_of_lt (by omega)]
  omega
theorem little_l0 (l : List Int) (hB : By l) (hl : l.length ≤ 8) : ∀ i, i ≤ l.length → EvT (fun k => spec_little.l0 k l 0 (bval (l.drop i)) ((i : Int) - 1)) (bval l) := by
  intro i
  induction i with
  | zero =>
    intro _
    refine EvT.succ (EvT.of fun k => ?_)
    simp only [spec_little.l0]
    rw [if_neg (by omega)]
    simp
  | succ i ih =>
    intro hi
    have hlt : i < l.length := by omega
    have hx := hB l[i] (List.getElem_mem hlt)
    have hd : l.drop i = l[i] :: l.drop (i + 1) := (List.drop_eq_getElem_cons hlt)
    have hb := bval_b (l := l.drop (i + 1)) (fun x hx => hB x (List.mem_of_mem_drop hx))
    have hb2 : bval (l.drop (i + 1)) < 72057594037927936 := by
      have h1 : (256 : Int) ^ (l.drop (i + 1)).length ≤ 256 ^ 7 := by
        have hn : (l.drop (i + 1)).length ≤ 7 := by rw [List.length_drop]; omega
        generalize (l.drop (i + 1)).length = q at *
        have : q = 0 ∨ q = 1 ∨ q = 2 ∨ q = 3 ∨ q = 4 ∨ q = 5 ∨ q = 6 ∨ q = 7 := by omega
        rcases this with h | h | h | h | h | h | h | h <;> rw [h] <;> decide
      have h2 : (256 : Int) ^ 7 = 72057594037927936 := by decide
      omega
    refine EvT.succ (EvT.congr (ih (by omega)) fun k => ?_)
    simp only [spec_little.l0]
    have e1 : wrap64 (0 + (((i + 1 : Nat) : Int) - 1)) = (i : Int) := by rw [w64 (by omega) (by omega)]; omega
    rw [if_pos (by omega), e1, if_pos (by omega), if_pos (by omega), rd_lt hlt, or_u64 _ _ hb.1 hb2 hx.1 hx.2, hd]
    simp only [bval]
    rw [w64 (by omega) (by omega)]
    congr 1
    omega
theorem little_ev (l : List Int) (hB : By l) (hl : l.length ≤ 8) : EvT (fun k => spec_LittleOf.f k l) (bval l) := by
  have h := little_l0 l hB hl l.length (Nat.le_refl _)
  rw [List.drop_length] at h
  refine EvT.bind (a := bval l) (EvT.congr h fun k => ?_) (EvT.some_ _)
  unfold spec_little.f
  rw [w64 (by omega) (by omega)]
  rfl
theorem real_some (a b : Int) : ∃ r, spec_PlainReal.f a b = some r := by
  unfold spec_PlainReal.f spec_plainReal.f
  split
  · split <;> exact ⟨_, rfl⟩
  · split <;> exact ⟨_, rfl⟩
theorem num_j1 (l : List Int) (hB : By l) (a1 : Int) (a2 a3 : Bool) (hw : a1 = 1 ∨ a1 = 2 ∨ a1 = 4 ∨ a1 = 8) (hl : (l.length : Int) = a1) (hr : a3 = true → 4 ≤ a1 ∧ a2 = false) (b : Bool) :
    EvT (fun k => laws_FnFlatNumber.j1 k l a1 a2 a3 (bval l) b) true := by
  refine EvT.succ (EvT.of fun k => ?_)
  have hf : impl_FlatNumberAt.f l a1 a2 a3 = some (bval l, l, true) := by unfold impl_FlatNumberAt.f; rw [if_pos ⟨hw, hl, hr, hB⟩]
  cases b with
  | true => simp only [laws_FnFlatNumber.j1, if_true]
  | false => simp only [laws_FnFlatNumber.j1, Bool.false_eq_true, if_false, hf, Option.bind_some, if_true, laws_same.f, beq_self_eq_true]
theorem num_j0 (l : List Int) (hB : By l) (a1 : Int) (a2 a3 : Bool) (hw : a1 = 1 ∨ a1 = 2 ∨ a1 = 4 ∨ a1 = 8) (hl : (l.length : Int) = a1) (hr : a3 = true → 4 ≤ a1 ∧ a2 = false) :
    EvT (fun k => laws_FnFlatNumber.j0 k l a1 a2 a3 false) true := by
  refine EvT.succ ?_
  simp only [laws_FnFlatNumber.j0, Bool.false_eq_true, if_false]
  refine EvT.bind (little_ev l hB (by omega)) ?_
  cases a3 with
  | true =>
    obtain ⟨r, e⟩ := real_some (bval l) a1
    simp only [if_true, e, Option.bind_some]
    exact num_j1 l hB a1 a2 true hw hl hr _
  | false =>
    simp only [Bool.false_eq_true, if_false]
    exact num_j1 l hB a1 a2 false hw hl hr _
theorem num_skip (l : List Int) (a1 : Int) (a2 a3 : Bool) : EvT (fun k => laws_FnFlatNumber.j0 k l a1 a2 a3 true) true := by
  refine EvT.succ (EvT.of fun k => ?_)
  simp only [laws_FnFlatNumber.j0, if_true]
theorem bounds_u8 {x : Int} (h : (Lit.int .u8 x).wf = true) : 0 ≤ x ∧ x < 256 := by
  simp [Lit.wf, IntKind.min, IntKind.max, IntKind.signed, IntKind.bits] at h
  omega
theorem FlatNumber_pure : laws_FnFlatNumber.Pure := by
  intro l a1 a2 a3 _ _ h1 _
  suffices h : EvT (fun k => laws_FnFlatNumber.f k l a1 a2 a3) true by
    obtain ⟨k0, hk⟩ := h
    exact ⟨k0, hk k0 (Nat.le_refl _)⟩
  have hB : By l := fun x hx => bounds_u8 (h1 x hx)
  unfold laws_FnFlatNumber.f
  split
  · exact EvT.some_ _
  · refine EvT.bind (oneOf_ev a1) ?_
    by_cases hw : a1 = 1 ∨ a1 = 2 ∨ a1 = 4 ∨ a1 = 8
    · simp only [decide_eq_true hw, if_true]
      by_cases hl : (l.length : Int) = a1
      · simp only [if_pos hl]
        cases a3 with
        | true =>
          simp only [if_true]
          by_cases h4 : a1 < 4
          · simp only [if_pos h4]; exact num_skip _ _ _ _
          · simp only [if_neg h4]
            cases a2 with
            | true => exact num_skip _ _ _ _
            | false => exact num_j0 l hB a1 false true hw hl (fun _ => ⟨by omega, rfl⟩)
        | false =>
          simp only [Bool.false_eq_true, if_false]
          exact num_j0 l hB a1 a2 false hw hl (fun h => by cases h)
      · simp only [if_neg hl]; exact num_skip _ _ _ _
    · simp only [decide_eq_false hw, Bool.false_eq_true, if_false]; exact num_skip _ _ _ _
end Go.Proofs.Ytbepnloclnjkfaa.M
