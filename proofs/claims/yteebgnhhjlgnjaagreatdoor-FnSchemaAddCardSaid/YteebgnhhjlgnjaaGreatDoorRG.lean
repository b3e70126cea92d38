/- What spec.Right asks, in plain words; that its helpers answer. -/
import Derived.Test.YteebgnhhjlgnjaaGreatDoorGU
import Derived.Test.YteebgnhhjlgnjaaGreatDoorFV2
import Derived.Test.YteebgnhhjlgnjaaGreatDoorFV3
import Derived.Test.YteebgnhhjlgnjaaGreatDoorFV4
import Derived.Test.YteebgnhhjlgnjaaGreatDoorCF
namespace Go.Proofs.YteebgnhhjlgnjaaGreatDoor.V
open Go.RowKit Go.Proofs.YteebgnhhjlgnjaaGreatDoorW.PrintWords Go.Proofs.YteebgnhhjlgnjaaGreatDoorW.PrintLast Go.Proofs.YteebgnhhjlgnjaaGreatDoorW.PrintMore
set_option maxHeartbeats 40000000
set_option maxRecDepth 100000
set_option linter.unusedVariables false
set_option linter.unusedSimpArgs false
def fld (T : S28) (i : Nat) : S30 := T.f9.getD i z30
def IdsP (ids : List Int) (n : Nat) : Prop := ids.length = n ∧ (∀ x ∈ ids, 0 ≤ x ∧ x ≤ 126) ∧ ids.Nodup
structure KindP (T : S28) : Prop where
 int : T.f0 = 2 → T.f1 ∈ ([8, 16, 32, 64] : List Int)
 float : T.f0 = 3 → T.f1 ∈ ([16, 32, 64] : List Int)
 dec : T.f0 = 7 → T.f1 ∈ ([32, 64, 128, 256] : List Int) ∧ 1 ≤ T.f4 ∧ T.f4 ≤ 76 ∧ -76 ≤ T.f5 ∧ T.f5 ≤ 76
 date : T.f0 = 8 → T.f3 ∈ ([0, 1] : List Int)
 time : T.f0 = 9 ∨ T.f0 = 10 ∨ T.f0 = 18 → 0 ≤ T.f3 ∧ T.f3 ≤ 3
 ival : T.f0 = 11 → 0 ≤ T.f3 ∧ T.f3 ≤ 2
 wide : T.f0 = 15 ∨ T.f0 = 16 → 0 ≤ T.f1 ∧ T.f1 ≤ 1000
 flist : T.f0 = 16 → 0 < T.f1
 union : T.f0 = 14 → T.f3 ∈ ([0, 1] : List Int) ∧ IdsP T.f8 T.f9.length ∧ 0 < T.f9.length
 map : T.f0 = 17 → (fld T 0).f2.f0 = 13 ∧ (fld T 0).f2.f9.length = 2
def loP (k : Int) : Nat := if k = 12 ∨ k = 21 ∨ k = 25 ∨ k = 26 ∨ k = 16 ∨ k = 17 then 1 else if k = 22 ∨ k = 27 then 2 else 0
def hiP (k : Int) : Nat := if k = 13 ∨ k = 14 then 100 else loP k
def RightP : Nat → S28 → Prop
 | 0, _ => False
 | n + 1, T => (unusedB T = true ∧ 1 ≤ T.f0 ∧ T.f0 ≤ 27 ∧ loP T.f0 ≤ T.f9.length ∧ T.f9.length ≤ hiP T.f0 ∧ T.f6.size ≤ 50) ∧ KindP T ∧ ∀ f ∈ T.f9, RightP n f.f2
theorem hi100 (k : Int) : hiP k ≤ 100 := by
 unfold hiP loP
 split
 ·exact Nat.le_refl _
 ·split
  ·omega
  ·split <;> omega
theorem RightP.len {n : Nat} {T : S28} (h : RightP n T) : T.f9.length ≤ 100 := by
 cases n with
 | zero => exact h.elim
 | succ n => exact Nat.le_trans h.1.2.2.2.2.1 (hi100 _)
theorem parts_f (k : Int) : spec_parts.f 5 k = some ((loP k : Int), (hiP k : Int)) := by
 by_cases h1 : k = 12; · subst h1; rfl
 by_cases h2 : k = 21; · subst h2; rfl
 by_cases h3 : k = 25; · subst h3; rfl
 by_cases h4 : k = 26; · subst h4; rfl
 by_cases h5 : k = 16; · subst h5; rfl
 by_cases h6 : k = 17; · subst h6; rfl
 by_cases h7 : k = 22; · subst h7; rfl
 by_cases h8 : k = 27; · subst h8; rfl
 by_cases h9 : k = 13; · subst h9; rfl
 by_cases h10 : k = 14; · subst h10; rfl
 simp [spec_parts.f, spec_parts.j0, spec_parts.j1, loP, hiP, h1, h2, h3, h4, h5, h6, h7, h8, h9, h10]
theorem uni {α : Type} (P : α → Nat → Prop) : ∀ (l : List α), (∀ x ∈ l, ∃ k0, ∀ k, k0 ≤ k → P x k) → ∃ K, ∀ x ∈ l, ∀ k, K ≤ k → P x k
 | [], _ => ⟨0, fun x hx => by cases hx⟩
 | a :: r, h => by
  obtain ⟨k1, h1⟩ := h a (by simp)
  obtain ⟨k2, h2⟩ := uni P r (fun x hx => h x (by simp [hx]))
  refine ⟨max k1 k2, fun x hx k hk => ?_⟩
  rcases List.mem_cons.1 hx with rfl | hx
  ·exact h1 k (by omega)
  ·exact h2 x hx k (by omega)
theorem rd30 (l : List S30) (i : Nat) (hi : i < l.length) : rd_T30 l (i : Int) = l[i] := by
 unfold rd_T30
 rw [Int.toNat_natCast, List.getD_eq_getElem?_getD, List.getElem?_eq_getElem hi]
 rfl
def nrOk (T : S28) (k : Nat) : Prop := ∃ r, spec_narrowRuns.f k T.f0 T.f1 T.f2 T.f3 T.f4 T.f5 T.f6 T.f7 T.f8 T.f9 = some r
theorem nr_l0 (l : List S30) (hl : l.length ≤ 100) (K : Nat) (h : ∀ f ∈ l, ∀ k, K ≤ k → nrOk f.f2 k) : ∀ (d i k : Nat), i + d = l.length → K + d < k → ∃ r, spec_narrowRuns.l0 k l (l.length : Int) (i : Int) = some r
 | d, i, 0, _, hk => absurd hk (by omega)
 | 0, i, k + 1, hi, _ => by
  rw [spec_narrowRuns.l0, if_neg (by omega)]
  exact ⟨_, rfl⟩
 | d + 1, i, k + 1, hi, hk => by
  have hlt : i < l.length := by omega
  obtain ⟨r, hr⟩ := h l[i] (List.getElem_mem hlt) k (by omega)
  have e1 : wrap64 ((i : Int) + 1) = ((i + 1 : Nat) : Int) := by rw [w64_id _ (by omega) (by omega)]; omega
  rw [spec_narrowRuns.l0, if_pos (by omega), if_pos (by omega), if_pos (by omega), rd30 l i hlt, hr, Option.bind_some, e1]
  cases r with
  | true => exact ⟨_, rfl⟩
  | false => exact nr_l0 l hl K h d (i + 1) k (by omega) (by omega)
theorem nr_ok : ∀ (n : Nat) (T : S28), RightP n T → ∃ k0, ∀ k, k0 ≤ k → nrOk T k
 | 0, T, h => h.elim
 | n + 1, T, h => by
  obtain ⟨K, hK⟩ := uni (fun (f : S30) k => nrOk f.f2 k) T.f9 (fun f hf => nr_ok n f.f2 (h.2.2 f hf))
  have hl := h.len
  refine ⟨K + T.f9.length + 3, fun k hk => ?_⟩
  obtain ⟨k, rfl⟩ : ∃ m, k = m + 1 := ⟨k - 1, by omega⟩
  obtain ⟨k, rfl⟩ : ∃ m, k = m + 1 := ⟨k - 1, by omega⟩
  obtain ⟨r, hr⟩ := nr_l0 T.f9 hl K hK T.f9.length 0 k (by omega) (by omega)
  unfold nrOk
  by_cases h22 : T.f0 = 22
  ·have h2 : 2 ≤ T.f9.length := by have := h.1.2.2.2.1; rw [h22] at this; exact this
   rw [spec_narrowRuns.f, if_pos h22, if_pos (by omega), spec_narrowRuns.j0]
   split
   ·exact ⟨_, rfl⟩
   ·exact ⟨r, hr⟩
  ·rw [spec_narrowRuns.f, if_neg h22, spec_narrowRuns.j0, if_neg (by simp)]
   exact ⟨r, hr⟩
def hkOk (ks : List Int) (T : S28) (k : Nat) : Prop := ∃ r, spec_HasKind.f k T.f0 T.f1 T.f2 T.f3 T.f4 T.f5 T.f6 T.f7 T.f8 T.f9 ks = some r
theorem hk_l0 (ks : List Int) (l : List S30) (hl : l.length ≤ 100) (K : Nat) (h : ∀ f ∈ l, ∀ k, K ≤ k → hkOk ks f.f2 k) : ∀ (d i k : Nat), i + d = l.length → K + d < k → ∃ r, spec_HasKind.l0 k ks l (l.length : Int) (i : Int) = some r
 | d, i, 0, _, hk => absurd hk (by omega)
 | 0, i, k + 1, hi, _ => by
  rw [spec_HasKind.l0, if_neg (by omega)]
  exact ⟨_, rfl⟩
 | d + 1, i, k + 1, hi, hk => by
  have hlt : i < l.length := by omega
  obtain ⟨r, hr⟩ := h l[i] (List.getElem_mem hlt) k (by omega)
  have e1 : wrap64 ((i : Int) + 1) = ((i + 1 : Nat) : Int) := by rw [w64_id _ (by omega) (by omega)]; omega
  rw [spec_HasKind.l0, if_pos (by omega), if_pos (by omega), if_pos (by omega), rd30 l i hlt, hr, Option.bind_some, e1]
  cases r with
  | true => exact ⟨_, rfl⟩
  | false => exact hk_l0 ks l hl K h d (i + 1) k (by omega) (by omega)
theorem hk_ok (ks : List Int) (hks : ks.length < 2 ^ 40) : ∀ (n : Nat) (T : S28), RightP n T → ∃ k0, ∀ k, k0 ≤ k → hkOk ks T k
 | 0, T, h => h.elim
 | n + 1, T, h => by
  obtain ⟨K, hK⟩ := uni (fun (f : S30) k => hkOk ks f.f2 k) T.f9 (fun f hf => hk_ok ks hks n f.f2 (h.2.2 f hf))
  have hl := h.len
  refine ⟨K + T.f9.length + ks.length + 3, fun k hk => ?_⟩
  obtain ⟨k, rfl⟩ : ∃ m, k = m + 1 := ⟨k - 1, by omega⟩
  obtain ⟨r, hr⟩ := hk_l0 ks T.f9 hl K hK T.f9.length 0 k (by omega) (by omega)
  unfold hkOk
  rw [spec_HasKind.f, in_f _ _ hks k (by omega), Option.bind_some]
  split
  ·exact ⟨_, rfl⟩
  ·exact ⟨r, hr⟩
theorem pigeon : ∀ (m : Nat) (l : List Int), l.Nodup → (∀ x ∈ l, 0 ≤ x ∧ x < m) → l.length ≤ m
 | 0, l, _, h => by
  cases l with
  | nil => exact Nat.le_refl _
  | cons a r => have := h a (by simp); omega
 | m + 1, l, hd, h => by
  by_cases hm : (m : Int) ∈ l
  ·have h2 := pigeon m (l.erase (m : Int)) (hd.erase _) (fun x hx => by
    have h3 := (hd.mem_erase_iff).1 hx
    have h4 := h x h3.2
    have h5 := h3.1
    omega)
   rw [List.length_erase_of_mem hm] at h2
   omega
  ·have h2 := pigeon m l hd (fun x hx => by
    have h4 := h x hx
    have h5 : x ≠ (m : Int) := fun e => hm (e ▸ hx)
    omega)
   omega
theorem ids_l0 (T : S28) : ∀ (d k i : Nat), i + d = 128 → 200 + d < k → i ≤ T.f8.length → (∀ x ∈ T.f8.take i, 0 ≤ x ∧ x ≤ 126) → (T.f8.take i).Nodup → ∃ r, spec_idsRight.l0 k T.f8 (T.f8.length : Int) (i : Int) T.f0 T.f1 T.f2 T.f3 T.f4 T.f5 T.f6 T.f7 T.f8 T.f9 = some r ∧ (r = true → IdsP T.f8 T.f9.length)
 | d, 0, i, _, hk, _, _, _ => absurd hk (by omega)
 | 0, k + 1, i, hi, _, hle, hr, hd => by
  have := pigeon 127 _ hd (fun x hx => by have := hr x hx; omega)
  rw [List.length_take, Nat.min_eq_left hle] at this
  omega
 | d + 1, k + 1, i, hi, hk, hle, hr, hd => by
  by_cases hlt : i < T.f8.length
  ·have e1 : wrap64 ((i : Int) + 1) = ((i + 1 : Nat) : Int) := by rw [w64_id _ (by omega) (by omega)]; omega
   have e2 : rd T.f8 (i : Int) = T.f8[i] := by
    first
     | (simp [rd, List.getD_eq_getElem?_getD, List.getElem?_eq_getElem hlt]; done)
     | rfl
   rw [spec_idsRight.l0, if_pos (by omega), if_pos (by omega), if_pos (by omega), e2, e1]
   by_cases h0 : T.f8[i] < 0
   ·rw [if_pos h0]; exact ⟨_, rfl, fun h => by cases h⟩
   ·rw [if_neg h0]
    by_cases h1 : T.f8[i] > 126
    ·rw [if_pos h1]; exact ⟨_, rfl, fun h => by cases h⟩
    ·rw [if_neg h1, if_pos (by omega), Int.toNat_natCast, in_f _ _ (by rw [List.length_take]; omega) k (by rw [List.length_take]; omega), Option.bind_some]
     by_cases hc : (T.f8.take i).contains T.f8[i] = true
     ·rw [if_pos hc]; exact ⟨_, rfl, fun h => by cases h⟩
     ·rw [if_neg hc]
      have ht : T.f8.take (i + 1) = T.f8.take i ++ [T.f8[i]] := List.take_succ_eq_append_getElem hlt
      refine ids_l0 T d k (i + 1) (by omega) (by omega) hlt (fun x hx => ?_) ?_
      ·rw [ht] at hx
       rcases List.mem_append.1 hx with hx | hx
       ·exact hr x hx
       ·rw [List.mem_singleton.1 hx]; omega
      ·rw [ht]
       refine List.nodup_append.2 ⟨hd, by simp, fun a ha b hb e => ?_⟩
       rw [List.mem_singleton.1 hb] at e
       exact hc (by rw [← e]; exact List.contains_iff_mem.2 ha)
  ·have e : T.f8.take i = T.f8 := List.take_of_length_le (by omega)
   rw [spec_idsRight.l0, if_neg (by omega)]
   rw [e] at hr hd
   exact ⟨_, rfl, fun h => ⟨Int.ofNat.inj (by simpa using h), hr, hd⟩⟩
theorem ids_f (T : S28) : ∃ r, spec_idsRight.f 400 T.f0 T.f1 T.f2 T.f3 T.f4 T.f5 T.f6 T.f7 T.f8 T.f9 = some r ∧ (r = true → IdsP T.f8 T.f9.length) :=
 ids_l0 T 128 400 0 rfl (by omega) (by omega) (fun x hx => by simp at hx) (by simp)
theorem right_mk {n n' : Nat} {T : S28} (hn : n = n' + 1) (h : 0 < n ∧ unusedB T = true ∧ 1 ≤ T.f0 ∧ T.f0 ≤ 27 ∧ loP T.f0 ≤ T.f9.length ∧ T.f9.length ≤ hiP T.f0 ∧ T.f6.size ≤ 50) (hk : KindP T) (hc : ∀ (j : Nat) (hj : j < T.f9.length), RightP n' T.f9[j].f2) : RightP n T := by
 subst hn
 refine ⟨h.2, hk, fun f hf => ?_⟩
 obtain ⟨j, hj, e⟩ := List.getElem_of_mem hf
 rw [← e]
 exact hc j hj
theorem kp_plain {T : S28} (hk : T.f0 = 1 ∨ T.f0 = 4 ∨ T.f0 = 5 ∨ T.f0 = 6 ∨ T.f0 = 12 ∨ T.f0 = 13 ∨ 19 ≤ T.f0) : KindP T := by
 constructor <;> intro h' <;> (exfalso; omega)
theorem kp_int {T : S28} (hk : T.f0 = 2) (h : T.f1 ∈ ([8, 16, 32, 64] : List Int)) : KindP T := by
 constructor <;> intro h' <;> first | (exfalso; omega) | exact h
theorem kp_float {T : S28} (hk : T.f0 = 3) (h : T.f1 ∈ ([16, 32, 64] : List Int)) : KindP T := by
 constructor <;> intro h' <;> first | (exfalso; omega) | exact h
theorem kp_date {T : S28} (hk : T.f0 = 8) (h : T.f3 ∈ ([0, 1] : List Int)) : KindP T := by
 constructor <;> intro h' <;> first | (exfalso; omega) | exact h
theorem kp_time {T : S28} (hk : T.f0 = 9 ∨ T.f0 = 10 ∨ T.f0 = 18) (h : 0 ≤ T.f3 ∧ T.f3 ≤ 3) : KindP T := by
 constructor <;> intro h' <;> first | (exfalso; omega) | exact h
theorem kp_ival {T : S28} (hk : T.f0 = 11) (h : 0 ≤ T.f3 ∧ T.f3 ≤ 2) : KindP T := by
 constructor <;> intro h' <;> first | (exfalso; omega) | exact h
theorem kp_wide {T : S28} (hk : T.f0 = 15) (h : 0 ≤ T.f1 ∧ T.f1 ≤ 1000) : KindP T := by
 constructor <;> intro h' <;> first | (exfalso; omega) | exact h
theorem kp_flist {T : S28} (hk : T.f0 = 16) (h : 0 ≤ T.f1 ∧ T.f1 ≤ 1000) (h2 : 0 < T.f1) : KindP T := by
 constructor <;> intro h' <;> first | (exfalso; omega) | exact h | exact h2
theorem kp_union {T : S28} (hk : T.f0 = 14) (h : T.f3 ∈ ([0, 1] : List Int) ∧ IdsP T.f8 T.f9.length ∧ 0 < T.f9.length) : KindP T := by
 constructor <;> intro h' <;> first | (exfalso; omega) | exact h
theorem kp_map {T : S28} (hk : T.f0 = 17) (h : (fld T 0).f2.f0 = 13 ∧ (fld T 0).f2.f9.length = 2) : KindP T := by
 constructor <;> intro h' <;> first | (exfalso; omega) | exact h
def rt_T16 : Bool × List (List Nat × List Nat) := (true, [([], []), ([0], [0]), ([], []), ([1, 2], [1, 2]), ([3, 3], [3]), ([4], [4]), ([5, 4], [4, 5]), ([6, 4], [4, 6]), ([4, 7], [4, 7]), ([8, 4], [8]), ([9], [9]), ([10, 9], [9, 10]), ([9], [9]), ([12, 9], [9, 12]), ([13, 9, 9], [9, 13]), ([11, 14, 9], [9, 11, 14]), ([9, 15], [9, 15]), ([16, 14], [16]), ([17], [17]), ([18, 17], [17, 18]), ([17], [17]), ([20, 17], [17, 20]), ([21, 17], [17, 21]), ([19, 22, 17], [17, 19, 22]), ([17, 23], [17, 23]), ([24, 17], [24]), ([25], [25]), ([26, 25], [25, 26]), ([25], [25]), ([28, 25], [25, 28]), ([27, 29, 25], [25, 27, 29]), ([25, 30], [25, 30]), ([31, 25, 0, 1, 2, 3, 4, 5, 6, 7, 8, 9, 10, 11, 12, 13, 14, 15, 16, 17, 18, 19, 20, 21, 22, 23, 24, 25, 26, 27, 28, 29, 30, 31], [31])])
def rt_B16 : List Nat := [0, 1, 0, 7, 15, 31, 63, 127, 255, 511, 1023, 2047, 1023, 5119, 13311, 32767, 65535, 131071, 262143, 524287, 262143, 1310719, 3407871, 8388607, 16777215, 33554431, 67108863, 134217727, 67108863, 335544319, 1073741823, 2147483647, 4294967295]
theorem rt_tab16 : rtab .any (opsOf Tryz.f31 16) = rt_T16 := by kernel_rfl
theorem rt_bits16 : waitsOk rt_T16.2 rt_B16 = true := by kernel_rfl
theorem w64_neg (a : Int) (h0 : 0 ≤ a) (h1 : a < 2 ^ 62) : wrap64 (-a) = -a := by unfold wrap64; omega
theorem kp_dec7 {T : S28} {pr : Int} (hk : T.f0 = 7) (hc : ([32, 64, 128, 256] : List Int).contains T.f1 = true) (h1 : 1 ≤ T.f4) (h2 : T.f4 ≤ pr) (hp : pr ≤ 76) (h3 : wrap64 (-T.f4) ≤ T.f5) (h4 : T.f5 ≤ T.f4) : KindP T := by
 rw [w64_neg _ (by omega) (by omega)] at h3
 constructor <;> intro h' <;> first | (exfalso; omega) | exact ⟨List.contains_iff_mem.1 hc, h1, by omega, by omega, by omega⟩
theorem prec_f (x : Int) : ∃ r, spec_precisions.f x = some r ∧ r ≤ 76 := by
 unfold spec_precisions.f
 split
 ·exact ⟨_, rfl, by omega⟩
 ·split
  ·exact ⟨_, rfl, by omega⟩
  ·split <;> exact ⟨_, rfl, by omega⟩
theorem fld0 (T : S28) (h : 0 < T.f9.length) : fld T 0 = T.f9[0] := by
 unfold fld
 rw [List.getD_eq_getElem?_getD, List.getElem?_eq_getElem h]
 rfl
theorem lit_C {w : World} {g : Nat} {ls : List Int} (hl : ls.length < 2 ^ 40) {e : TypeId} (h : w.heap[g]? = some (.cells (ls.map (Value.int .i64)).toArray e (0, 0))) : Kd.C (Kd.int .i64) w (some ⟨g, 0, none⟩) ls.length ls := by
 refine Kd.C_of_reads (enc := Value.int .i64) (d := (0 : Int)) (h1 := fun _ => rfl) ⟨rfl, by omega, fun hn => ⟨_, rfl, fun j hj => ?_⟩⟩
 have h2 := blk_cell h j
 rw [List.getElem?_toArray, List.getElem?_map, List.getElem?_eq_getElem hj] at h2
 have e0 : (Addr.add ⟨g, 0, none⟩ j) = ⟨g, j, none⟩ := by simp [Addr.add]; omega
 rw [e0, h2, List.getD_eq_getElem?_getD, List.getElem?_eq_getElem hj]
 rfl
theorem unused_calls (T : S28) (w : World) (A8 A9 : Option Addr) (c8 c9 : Nat) (g8 : Kd.C (Kd.int .i64) w A8 T.f8.length T.f8) (l8 : T.f8.length ≤ c8) (g9 : Kd.C k30 w A9 T.f9.length T.f9) (l9 : T.f9.length ≤ c9) : Calls Tryz.prog 54 #[.agg #[.int .i64 T.f0, .int .i64 T.f1, .bool T.f2, .int .i64 T.f3, .int .i64 T.f4, .int .i64 T.f5, .string T.f6, .bool T.f7, .slice A8 T.f8.length c8, .slice A9 T.f9.length c9]] w fun e w' => e = .returned (.bool (unusedB T)) ∧ Below w.heap.size w w' := spec_unused.calls T.f0 T.f1 T.f2 T.f3 T.f4 T.f5 T.f6 T.f7 A8 c8 T.f8 A9 c9 T.f9 (unusedB T) w g8 l8 g9 l9 rfl
end Go.Proofs.YteebgnhhjlgnjaaGreatDoor.V
