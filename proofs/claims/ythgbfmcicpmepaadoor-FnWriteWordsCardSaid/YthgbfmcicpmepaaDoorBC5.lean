/- impl.CopyBits and impl.InvertBits: what they answer where the bits are there. -/
import Derived.Test.YthgbfmcicpmepaaDoorBT5
import Derived.Test.YthgbfmcicpmepaaDoorBV3
import Derived.Test.YthgbfmcicpmepaaDoorBX2
namespace Go.Proofs.YthgbfmcicpmepaaDoor.V
open Go.RowKit Go.Proofs.YthgbfmcicpmepaaDoor.B Go.Proofs.YthgbfmcicpmepaaDoorW.PrintWords Go.Proofs.YthgbfmcicpmepaaDoorW.PrintLast Go.Proofs.YthgbfmcicpmepaaDoorW.PrintMore
set_option linter.unusedVariables false
set_option linter.unusedSimpArgs false
theorem catch24 (p : Addr) (w : World) :
    CallsD Tryd.prog 24 #[.pointer (some p)] .returning w fun e u' w' => e = .returned (.tuple #[]) ∧ u' = .returning ∧ w = w' := by
  refine callsD_of_wpS Tryd.func24 rfl fun c₀ cs hu => ?_
  apply wpS_seq
  apply wpS_region
  simp [wpOpsS, go_sem, recoverD, hu, Tryd.ntmps24, Exit.thenS]
  refine wpS_cond (t := false) (by simp [Act.eval, Array.replicate]) ?_
  simp only [Bool.false_eq_true, if_false]
  refine wpS_of_wp (wp_skip ?_)
  cases c₀
  simp_all [bodyPostS, results, Tryd.results24]
theorem catch26 (p : Addr) (w : World) :
    CallsD Tryd.prog 26 #[.pointer (some p)] .returning w fun e u' w' => e = .returned (.tuple #[]) ∧ u' = .returning ∧ w = w' := by
  refine callsD_of_wpS Tryd.func26 rfl fun c₀ cs hu => ?_
  apply wpS_seq
  apply wpS_region
  simp [wpOpsS, go_sem, recoverD, hu, Tryd.ntmps26, Exit.thenS]
  refine wpS_cond (t := false) (by simp [Act.eval, Array.replicate]) ?_
  simp only [Bool.false_eq_true, if_false]
  refine wpS_of_wp (wp_skip ?_)
  cases c₀
  simp_all [bodyPostS, results, Tryd.results26]
set_option maxHeartbeats 4000000 in
set_option maxRecDepth 100000 in
theorem copy14 (S0 : Value) (a1 a2 a4 : Int) (A3 : Option Addr) (c3 : Nat) (l3 r : List Int) (w : World)
    (hC : ∀ W, Below w.heap.size w W → Calls Tryd.prog 17 #[.slice A3 l3.length c3] W fun e W' => ∃ v0, e = .returned v0 ∧ Kd.R (Kd.int .u8) 5 W' W.heap.size (fun _ => True) v0 l3 ∧ Below W.heap.size W W')
    (hX : ∀ v0 base W, w.heap.size ≤ base → Below w.heap.size w W → Kd.R (Kd.int .u8) 5 W base (fun _ => True) v0 l3 → Calls Tryd.prog 25 #[S0, .int .i64 a1, .int .i64 a2, v0, .int .i64 a4] W fun e W' => e = .returned (.tuple #[]) ∧ Kd.R (Kd.int .u8) 5 W' base (fun _ => True) v0 r ∧ Below base W W') :
    Calls Tryd.prog 14 #[S0, .int .i64 a1, .int .i64 a2, .slice A3 l3.length c3, .int .i64 a4] w fun e w' => ∃ v0_ : Value, e = .returned v0_ ∧ Kd.R (Kd.int .u8) 5 w' w.heap.size (fun _ => True) v0_ r ∧ Below w.heap.size w w' := by
  have hmf : ∀ (fn : Fn) (first cap : Array Value) (w : World), (Instr.makeFunc fn first cap).run Tryd.prog w = .ok (.func fn first cap) w := fun _ _ _ _ => rfl
  go_enter_defers Tryd.func14, Tryd.ntmps14
  go_wp2_with (go_at_call 17; fail)
  clear hmf
  refine calls_at ?_
  intro w0 hw0
  have B0 : w0.heap[w.heap.size]? = some (.cells #[.slice none 0 0] 22 (0, 0)) := by rw [hw0]; exact blk_new_at rfl
  have b0 : Below w.heap.size w w0 := by rw [hw0]; exact (Below.refl _ _).alloc (Nat.le_refl _) _
  clear hw0
  refine (hC w0 b0).mono ?_
  rintro e w1 ⟨v0, rfl, R0, b1⟩
  clear hC
  obtain ⟨A, c, rfl⟩ := Kd.R_slice R0
  have B1 := blk_below B0 b1
  have hb0 := Tch.lt B0
  have b2 := Tch.below b0 (Tch.of_below (S := fun _ => False) b1) b0.size (fun _ h => h.elim)
  have H := Lib.hid (And.intro B1 (And.intro b2 (And.intro R0 (And.intro hb0 b0.size))))
  clear B0 b0 b1 B1 b2 R0 hb0
  go_wp2_with (go_at_call 25; fail)
  refine (hX _ w0.heap.size w1 H.out.2.2.2.2 H.out.2.1 H.out.2.2.1).mono ?_
  rintro e w2 ⟨rfl, R2, b3⟩
  clear hX
  have B2 : w2.heap[w.heap.size]? = some (.cells #[.slice none 0 0] 22 (0, 0)) := by
    rw [b3.block _ H.out.2.2.2.1]
    exact H.out.1
  have c1 : w2.cell? ⟨w.heap.size, 0, none⟩ = some (.slice none 0 0) := (blk_cell B2 0).trans rfl
  have f1 := blk_frozen B2 0
  have H2 := Lib.hid (And.intro B2 (And.intro R2 b3))
  clear B2 R2 b3
  go_wp2
  refine leaves_cons (f := 24) (args := #[.pointer (some ⟨w.heap.size, 0, none⟩)]) (by simp) (by simp [go_sem]) ?_
  refine (catch24 _ _).mono ?_
  rintro e u' w'' ⟨rfl, rfl, rfl⟩
  obtain ⟨B2, R2, b3⟩ := H2.out
  obtain ⟨B1, b2, R0, hb0, hb1⟩ := H.out
  have B3 : (w2.setCell ⟨w.heap.size, 0, none⟩ (.slice A l3.length c)).heap[w.heap.size]? = some (.cells #[.slice A l3.length c] 22 (0, 0)) := blk_put_at B2 rfl
  have cN := (blk_cell B3 0).trans (show _ = some (Value.slice A l3.length c) from rfl)
  have bF := (Tch.below b2 ⟨b3.os, b3.tape, b3.output, b3.size, fun i hi hn => b3.block i (Nat.lt_of_not_le (fun hk => hn hk))⟩ b2.size (fun i (hi : w0.heap.size ≤ i) => Nat.le_trans hb1 hi)).setCell (Nat.le_refl _) (.slice A l3.length c) (p := ⟨w.heap.size, 0, none⟩)
  simp [Leaves, settle, results, Tryd.results14, go_sem, cN]
  refine ⟨Kd.R_lower (Kd.R_mono (Kd.R_step (Kd.R_bound R2) (fun k hk _ => heap_setCell_other w2 ⟨w.heap.size, 0, none⟩ k _ (show k ≠ w.heap.size by have := hk.2.1; omega))) (fun _ _ => trivial)) hb1, bF⟩
set_option maxHeartbeats 4000000 in
set_option maxRecDepth 100000 in
theorem copy15 (S0 : Value) (a1 a2 a4 : Int) (A3 : Option Addr) (c3 : Nat) (l3 r : List Int) (w : World)
    (hC : ∀ W, Below w.heap.size w W → Calls Tryd.prog 17 #[.slice A3 l3.length c3] W fun e W' => ∃ v0, e = .returned v0 ∧ Kd.R (Kd.int .u8) 5 W' W.heap.size (fun _ => True) v0 l3 ∧ Below W.heap.size W W')
    (hX : ∀ v0 base W, w.heap.size ≤ base → Below w.heap.size w W → Kd.R (Kd.int .u8) 5 W base (fun _ => True) v0 l3 → Calls Tryd.prog 27 #[S0, .int .i64 a1, .int .i64 a2, v0, .int .i64 a4] W fun e W' => e = .returned (.tuple #[]) ∧ Kd.R (Kd.int .u8) 5 W' base (fun _ => True) v0 r ∧ Below base W W') :
    Calls Tryd.prog 15 #[S0, .int .i64 a1, .int .i64 a2, .slice A3 l3.length c3, .int .i64 a4] w fun e w' => ∃ v0_ : Value, e = .returned v0_ ∧ Kd.R (Kd.int .u8) 5 w' w.heap.size (fun _ => True) v0_ r ∧ Below w.heap.size w w' := by
  have hmf : ∀ (fn : Fn) (first cap : Array Value) (w : World), (Instr.makeFunc fn first cap).run Tryd.prog w = .ok (.func fn first cap) w := fun _ _ _ _ => rfl
  go_enter_defers Tryd.func15, Tryd.ntmps15
  go_wp2_with (go_at_call 17; fail)
  clear hmf
  refine calls_at ?_
  intro w0 hw0
  have B0 : w0.heap[w.heap.size]? = some (.cells #[.slice none 0 0] 22 (0, 0)) := by rw [hw0]; exact blk_new_at rfl
  have b0 : Below w.heap.size w w0 := by rw [hw0]; exact (Below.refl _ _).alloc (Nat.le_refl _) _
  clear hw0
  refine (hC w0 b0).mono ?_
  rintro e w1 ⟨v0, rfl, R0, b1⟩
  clear hC
  obtain ⟨A, c, rfl⟩ := Kd.R_slice R0
  have B1 := blk_below B0 b1
  have hb0 := Tch.lt B0
  have b2 := Tch.below b0 (Tch.of_below (S := fun _ => False) b1) b0.size (fun _ h => h.elim)
  have H := Lib.hid (And.intro B1 (And.intro b2 (And.intro R0 (And.intro hb0 b0.size))))
  clear B0 b0 b1 B1 b2 R0 hb0
  go_wp2_with (go_at_call 27; fail)
  refine (hX _ w0.heap.size w1 H.out.2.2.2.2 H.out.2.1 H.out.2.2.1).mono ?_
  rintro e w2 ⟨rfl, R2, b3⟩
  clear hX
  have B2 : w2.heap[w.heap.size]? = some (.cells #[.slice none 0 0] 22 (0, 0)) := by
    rw [b3.block _ H.out.2.2.2.1]
    exact H.out.1
  have c1 : w2.cell? ⟨w.heap.size, 0, none⟩ = some (.slice none 0 0) := (blk_cell B2 0).trans rfl
  have f1 := blk_frozen B2 0
  have H2 := Lib.hid (And.intro B2 (And.intro R2 b3))
  clear B2 R2 b3
  go_wp2
  refine leaves_cons (f := 26) (args := #[.pointer (some ⟨w.heap.size, 0, none⟩)]) (by simp) (by simp [go_sem]) ?_
  refine (catch26 _ _).mono ?_
  rintro e u' w'' ⟨rfl, rfl, rfl⟩
  obtain ⟨B2, R2, b3⟩ := H2.out
  obtain ⟨B1, b2, R0, hb0, hb1⟩ := H.out
  have B3 : (w2.setCell ⟨w.heap.size, 0, none⟩ (.slice A l3.length c)).heap[w.heap.size]? = some (.cells #[.slice A l3.length c] 22 (0, 0)) := blk_put_at B2 rfl
  have cN := (blk_cell B3 0).trans (show _ = some (Value.slice A l3.length c) from rfl)
  have bF := (Tch.below b2 ⟨b3.os, b3.tape, b3.output, b3.size, fun i hi hn => b3.block i (Nat.lt_of_not_le (fun hk => hn hk))⟩ b2.size (fun i (hi : w0.heap.size ≤ i) => Nat.le_trans hb1 hi)).setCell (Nat.le_refl _) (.slice A l3.length c) (p := ⟨w.heap.size, 0, none⟩)
  simp [Leaves, settle, results, Tryd.results15, go_sem, cN]
  refine ⟨Kd.R_lower (Kd.R_mono (Kd.R_step (Kd.R_bound R2) (fun k hk _ => heap_setCell_other w2 ⟨w.heap.size, 0, none⟩ k _ (show k ≠ w.heap.size by have := hk.2.1; omega))) (fun _ _ => trivial)) hb1, bF⟩
theorem cp25 (S0 S1 : Value) (a1 a2 a4 : Int) (w : World) (P : World → Prop) (h : Calls Tryd.prog 47 #[.int .i8 0, S0, .int .i64 a1, .int .i64 a2, S1, .int .i64 a4] w fun e w' => e = .returned (.tuple #[]) ∧ P w') :
    Calls Tryd.prog 25 #[S0, .int .i64 a1, .int .i64 a2, S1, .int .i64 a4] w fun e w' => e = .returned (.tuple #[]) ∧ P w' := by
  go_enter Tryd.func25, Tryd.ntmps25
  go_wp2_with (go_at_call 47; fail)
  refine h.mono ?_
  rintro e w1 ⟨rfl, hP⟩
  have HP := Lib.hid hP
  clear hP h
  go_wp2
  go_end0
  exact ⟨rfl, HP.out⟩
theorem cp27 (S0 S1 : Value) (a1 a2 a4 : Int) (w : World) (P : World → Prop) (h : Calls Tryd.prog 47 #[.int .i8 1, S0, .int .i64 a1, .int .i64 a2, S1, .int .i64 a4] w fun e w' => e = .returned (.tuple #[]) ∧ P w') :
    Calls Tryd.prog 27 #[S0, .int .i64 a1, .int .i64 a2, S1, .int .i64 a4] w fun e w' => e = .returned (.tuple #[]) ∧ P w' := by
  go_enter Tryd.func27, Tryd.ntmps27
  go_wp2_with (go_at_call 47; fail)
  refine h.mono ?_
  rintro e w1 ⟨rfl, hP⟩
  have HP := Lib.hid hP
  clear hP h
  go_wp2
  go_end0
  exact ⟨rfl, HP.out⟩
theorem tr47z (m : Int) (S0 S1 : Value) (a1 a4 : Int) (w : World) : Calls Tryd.prog 47 #[.int .i8 m, S0, .int .i64 a1, .int .i64 0, S1, .int .i64 a4] w fun e w' => e = .returned (.tuple #[]) ∧ w = w' := by
  go_enter Tryd.func47, Tryd.ntmps47
  go_wp2
  refine bodyPost_ret (results_none rfl _ _ _) rfl ?_
  exact ⟨rfl, rfl⟩
theorem own_in {W : World} {base : Nat} {ok : Nat → Prop} {A : Option Addr} {c : Nat} {l : List Int} (h : Kd.R (Kd.int .u8) 5 W base ok (.slice A l.length c) l) (hb : ∀ x ∈ l, 0 ≤ x ∧ x < 256) (hl : 0 < l.length) : ∃ g, A = some ⟨g, 0, none⟩ ∧ base ≤ g ∧ l.length ≤ c ∧ c ≤ maxLen ∧ Own W g c l.length (DL l) := by
  have ho := Kd.own_of_R h
  rcases ho.2 with ⟨_, h0⟩ | ⟨g, cap, cur, hv, hbg, hg, hn, hm, hs, ht⟩
  · omega
  · injection hv with h1 h2 h3
    subst h3
    refine ⟨g, h1, hbg, hn, hm, DL_lt hb, cur, hg, by omega, fun j hj => ?_⟩
    have e := congrArg (fun z => z[j]?) ht
    simp only [Nat.mul_one, List.getElem?_take, hj, if_true, Array.getElem?_toList] at e
    rw [e, encs, List.getElem?_map, List.getElem?_eq_getElem hj, Option.map_some, DL_int hb]
    congr 2
    have e2 : rd l (j : Int) = l.getD j 0 := by first | rfl | simp [rd]
    rw [e2, List.getD_eq_getElem?_getD, List.getElem?_eq_getElem hj]
    rfl
theorem own_back {W : World} {base g c n : Nat} {M : Nat → Nat} (h : Own W g c n M) (hb : base ≤ g) (hn : n ≤ c) (hm : c ≤ maxLen) : Kd.R (Kd.int .u8) 5 W base (fun _ => True) (.slice (some ⟨g, 0, none⟩) n c) ((List.range n).map fun j => (M j : Int)) := by
  obtain ⟨arr, h1, h2, h3⟩ := h.blk
  have hl : ((List.range n).map fun j => (M j : Int)).length = n := by simp
  refine Kd.R_of_own ⟨by rw [encs, List.length_map, hl, Nat.mul_one], .inr ⟨g, c, arr, by rw [hl], hb, h1, by rw [hl]; exact hn, hm, by rw [h2, Nat.mul_one], ?_⟩⟩ (fun _ _ => trivial)
  rw [hl, Nat.mul_one]
  apply List.ext_getElem?
  intro j
  rw [List.getElem?_take]
  by_cases hj : j < n
  · rw [if_pos hj, Array.getElem?_toList, h3 j hj, encs, List.getElem?_map, List.getElem?_map, List.getElem?_range hj]
    rfl
  · rw [if_neg hj, List.getElem?_eq_none (by simp [encs]; omega)]
/-- So many bits of a row of bits, the lowest first, as a number. -/
def pkb (g : Nat → Bool) (p : Nat) : Nat → Nat
  | 0 => 0
  | n + 1 => pkb g p n + 2 ^ n * (g (p + n)).toNat
theorem pkb_lt (g : Nat → Bool) (p : Nat) : ∀ n, pkb g p n < 2 ^ n
  | 0 => by simp [pkb]
  | n + 1 => by
    have h := pkb_lt g p n
    simp only [pkb, Nat.pow_succ]
    cases g (p + n) <;> simp <;> omega
theorem pkb_testBit (g : Nat → Bool) (p i : Nat) : ∀ n, (pkb g p n).testBit i = (decide (i < n) && g (p + i))
  | 0 => by simp [pkb]
  | n + 1 => by
    have h := pkb_testBit g p i n
    simp only [pkb]
    rw [Nat.add_comm, Nat.testBit_two_pow_mul_add _ (pkb_lt g p n), h]
    by_cases hi : i < n
    · simp [hi, Nat.lt_succ_of_lt hi]
    · by_cases he : i = n
      · subst he
        simp
        cases g (p + i) <;> rfl
      · have : ¬ i < n + 1 := by omega
        simp [hi, this]
        cases g (p + n)
        · simp
        · have : i - n ≠ 0 := by omega
          simpa using Nat.testBit_lt_two_pow (x := 1) (i := i - n) (Nat.one_lt_two_pow this)
/-- The bytes that hold a row of bits. -/
def bytesB (g : Nat → Bool) (j : Nat) : Nat := pkb g (8 * j) 8
theorem bytesB_lt (g : Nat → Bool) (j : Nat) : bytesB g j < 256 := pkb_lt g _ 8
theorem bytesB_bit (g : Nat → Bool) (i : Nat) : bitD (bytesB g) i = g i := by
  unfold bitD bytesB
  rw [pkb_testBit, show 8 * (i / 8) + i % 8 = i by omega]
  simp [show i % 8 < 8 by omega]
theorem bytesB_of {M : Nat → Nat} (hM : ∀ j, M j < 256) {g : Nat → Bool} (h : ∀ i, bitD M i = g i) (j : Nat) : M j = bytesB g j := same_row hM (bytesB_lt g) (fun i => by rw [h, bytesB_bit]) j
/-- A row's bits, so many from a place on being others. -/
def turned (M : Nat → Nat) (q n : Nat) (f : Nat → Bool) (i : Nat) : Bool := if q ≤ i ∧ i < q + n then f (i - q) else bitD M i
def copyArgs (l0 : List Int) (a1 a2 : Int) (l3 : List Int) (a4 : Int) : Prop := 0 ≤ a1 ∧ 0 ≤ a2 ∧ 0 ≤ a4 ∧ a1 + a2 ≤ 8 * (l0.length : Int) ∧ a4 + a2 ≤ 8 * (l3.length : Int) ∧ l0.length < 2 ^ 36 ∧ l3.length < 2 ^ 36 ∧ (∀ x ∈ l0, 0 ≤ x ∧ x < 256) ∧ (∀ x ∈ l3, 0 ≤ x ∧ x < 256)
instance (l0 : List Int) (a1 a2 : Int) (l3 : List Int) (a4 : Int) : Decidable (copyArgs l0 a1 a2 l3 a4) := by
  unfold copyArgs
  infer_instance
/-- Where the bits are there: the bytes with the bits in their new places; of others nothing is said. -/
def impl_CopyBits.f (l0 : List Int) (a1 a2 : Int) (l3 : List Int) (a4 : Int) : Option (List Int) :=
  if copyArgs l0 a1 a2 l3 a4 then some ((List.range l3.length).map fun j => (bytesB (turned (DL l3) a4.toNat a2.toNat fun i => bitD (DL l0) (a1.toNat + i)) j : Int)) else none
def impl_InvertBits.f (l0 : List Int) (a1 a2 : Int) (l3 : List Int) (a4 : Int) : Option (List Int) :=
  if copyArgs l0 a1 a2 l3 a4 then some ((List.range l3.length).map fun j => (bytesB (turned (DL l3) a4.toNat a2.toNat fun i => !bitD (DL l0) (a1.toNat + i)) j : Int)) else none
theorem list_DL {l : List Int} (hb : ∀ x ∈ l, 0 ≤ x ∧ x < 256) : (List.range l.length).map (fun j => (DL l j : Int)) = l := by
  apply List.ext_getElem?
  intro j
  rw [List.getElem?_map]
  by_cases hj : j < l.length
  · rw [List.getElem?_range hj, Option.map_some, DL_int hb, List.getElem?_eq_getElem hj]
    congr 1
    have e2 : rd l (j : Int) = l.getD j 0 := by first | rfl | simp [rd]
    rw [e2, List.getD_eq_getElem?_getD, List.getElem?_eq_getElem hj]
    rfl
  · rw [List.getElem?_eq_none (by simp; omega), List.getElem?_eq_none (by omega)]
    rfl
theorem copied_f (l : List Int) (hl : l.length < 2 ^ 36) : impl_copied.f l = some l := by
  unfold impl_copied.f
  rw [Option.bind_some, if_pos (by simp; omega)]
  rfl
theorem tr47m0 (B O m c b C L p q n : Nat) (D M : Nat → Nat) (w : World) (hT : TabAt w) (hD : Dat w B O m D) (hO : Own w b C L M) (hBb : B ≠ b) (h1b : b ≠ 1) (hc : m ≤ c) (hL : L ≤ C) (hn : 0 < n) (hp : p + n ≤ 8 * m) (hq : q + n ≤ 8 * L) (hm : m < 2 ^ 36) (hE : L < 2 ^ 40) :
    Calls Tryd.prog 47 #[.int .i8 0, .slice (some ⟨B, O, none⟩) m c, .int .i64 (p : Int), .int .i64 (n : Int), .slice (some ⟨b, 0, none⟩) L C, .int .i64 (q : Int)] w fun e w' => e = .returned (.tuple #[]) ∧ Tch (fun k => k = b) w w' ∧ ∃ M', Own w' b C L M' ∧ Wrote M q n (fun i => bitD D (p + i)) M' := by
  by_cases u0 : (p : Int) % 8 = 0
  · by_cases u2 : (q : Int) % 8 = 0
    · exact tr47e B O m c b C L p q n D M w hD hO hBb hc hL hn hp hq hm hE u0 u2
    · exact tr47b B O m c b C L p q n D M w hT hD hO hBb h1b hc hL hn hp hq hm hE u0 u2
  · exact tr47a B O m c b C L p q n D M w hT hD hO hBb h1b hc hL hn hp hq hm hE u0
theorem tr47m1 (B O m c b C L p q n : Nat) (D M : Nat → Nat) (w : World) (hT : TabAt w) (hD : Dat w B O m D) (hO : Own w b C L M) (hBb : B ≠ b) (h1b : b ≠ 1) (hc : m ≤ c) (hL : L ≤ C) (hn : 0 < n) (hp : p + n ≤ 8 * m) (hq : q + n ≤ 8 * L) (hm : m < 2 ^ 36) (hE : L < 2 ^ 40) :
    Calls Tryd.prog 47 #[.int .i8 1, .slice (some ⟨B, O, none⟩) m c, .int .i64 (p : Int), .int .i64 (n : Int), .slice (some ⟨b, 0, none⟩) L C, .int .i64 (q : Int)] w fun e w' => e = .returned (.tuple #[]) ∧ Tch (fun k => k = b) w w' ∧ ∃ M', Own w' b C L M' ∧ Wrote M q n (fun i => !bitD D (p + i)) M' := by
  by_cases u0 : (p : Int) % 8 = 0
  · by_cases u2 : (q : Int) % 8 = 0
    · exact tr47f B O m c b C L p q n D M w hD hO hBb hc hL hn hp hq hm hE u0 u2
    · exact tr47d B O m c b C L p q n D M w hT hD hO hBb h1b hc hL hn hp hq hm hE u0 u2
  · exact tr47c B O m c b C L p q n D M w hT hD hO hBb h1b hc hL hn hp hq hm hE u0
theorem impl_CopyBits.calls (A0 : Option Addr) (c0 : Nat) (l0 : List Int) (a1 a2 : Int) (A3 : Option Addr) (c3 : Nat) (l3 : List Int) (a4 : Int) (r : List Int) (w : World) (hT : TabAt w) (hr0 : Kd.C (Kd.int .u8) w A0 l0.length l0) (hc0 : l0.length ≤ c0) (hr3 : Kd.C (Kd.int .u8) w A3 l3.length l3) (hc3 : l3.length ≤ c3) (h : impl_CopyBits.f l0 a1 a2 l3 a4 = some r) :
    Calls Tryd.prog 14 #[.slice A0 l0.length c0, .int .i64 a1, .int .i64 a2, .slice A3 l3.length c3, .int .i64 a4] w fun e w' => ∃ v0_ : Value, e = .returned v0_ ∧ Kd.R (Kd.int .u8) 5 w' w.heap.size (fun _ => True) v0_ r ∧ Below w.heap.size w w' := by
  unfold impl_CopyBits.f at h
  split at h
  · next hh =>
    obtain ⟨h1, h2, h4, e0, e3, g0, g3, y0, y3⟩ := hh
    obtain ⟨p, rfl⟩ := Int.eq_ofNat_of_zero_le h1
    obtain ⟨n, rfl⟩ := Int.eq_ofNat_of_zero_le h2
    obtain ⟨q, rfl⟩ := Int.eq_ofNat_of_zero_le h4
    injection h with h
    simp only [Int.toNat_natCast] at h
    have h1w : 1 < w.heap.size := World.block_lt_of_cell? w ⟨1, 0, none⟩ (hT.cell 0 (by omega))
    refine copy14 _ _ _ _ A3 c3 l3 r w (fun W hb => impl_copied.calls A3 c3 l3 l3 W (Kd.C_below hr3 hb) hc3 (copied_f l3 g3)) (fun v0 base W hbase hb R => ?_)
    refine cp25 _ _ _ _ _ _ _ ?_
    rcases Nat.eq_zero_or_pos n with rfl | hn
    · refine (tr47z 0 _ _ _ _ W).mono ?_
      rintro e W' ⟨rfl, rfl⟩
      refine ⟨rfl, ?_, Below.refl _ _⟩
      have e : r = l3 := by
        refine Eq.trans ?_ (list_DL y3)
        rw [← h]
        apply List.map_congr_left
        intro j _
        congr 1
        refine (bytesB_of (DL_lt y3) (fun i => ?_) j).symm
        unfold turned
        rw [if_neg (by omega)]
      rw [e]
      exact R
    · obtain ⟨A, c, rfl⟩ := Kd.R_slice R
      obtain ⟨g, rfl, hg, hlc, hcm, O3⟩ := own_in R y3 (by omega)
      obtain ⟨B, O, rfl, hD⟩ := (row_of_kd hr0 y0).2 (by omega)
      have hB : B < w.heap.size := World.block_lt_of_cell? w ⟨B, O, none⟩ (hD.at_ 0 O (by omega) rfl)
      refine (tr47m0 B O l0.length c0 g c l3.length p q n (DL l0) (DL l3) W (hT.tch (Tch.of_below (S := fun _ => False) hb) (fun h => h)) (hD.tch (Tch.of_below (S := fun _ => False) hb) (fun h => h)) O3 (by omega) (by omega) hc0 hlc hn (by omega) (by omega) g0 (by omega)).mono ?_
      rintro e W' ⟨rfl, T, M', O', wr⟩
      refine ⟨rfl, ?_, ⟨T.os, T.tape, T.output, T.size, fun i hi => T.block i (by have := O3.lt; omega) (by omega)⟩⟩
      have k := own_back O' hg hlc hcm
      have e : (List.range l3.length).map (fun j => (M' j : Int)) = r := by
        rw [← h]
        apply List.map_congr_left
        intro j _
        rw [bytesB_of O'.byte wr j]
        rfl
      rw [e] at k
      exact k
  · cases h
theorem impl_InvertBits.calls (A0 : Option Addr) (c0 : Nat) (l0 : List Int) (a1 a2 : Int) (A3 : Option Addr) (c3 : Nat) (l3 : List Int) (a4 : Int) (r : List Int) (w : World) (hT : TabAt w) (hr0 : Kd.C (Kd.int .u8) w A0 l0.length l0) (hc0 : l0.length ≤ c0) (hr3 : Kd.C (Kd.int .u8) w A3 l3.length l3) (hc3 : l3.length ≤ c3) (h : impl_InvertBits.f l0 a1 a2 l3 a4 = some r) :
    Calls Tryd.prog 15 #[.slice A0 l0.length c0, .int .i64 a1, .int .i64 a2, .slice A3 l3.length c3, .int .i64 a4] w fun e w' => ∃ v0_ : Value, e = .returned v0_ ∧ Kd.R (Kd.int .u8) 5 w' w.heap.size (fun _ => True) v0_ r ∧ Below w.heap.size w w' := by
  unfold impl_InvertBits.f at h
  split at h
  · next hh =>
    obtain ⟨h1, h2, h4, e0, e3, g0, g3, y0, y3⟩ := hh
    obtain ⟨p, rfl⟩ := Int.eq_ofNat_of_zero_le h1
    obtain ⟨n, rfl⟩ := Int.eq_ofNat_of_zero_le h2
    obtain ⟨q, rfl⟩ := Int.eq_ofNat_of_zero_le h4
    injection h with h
    simp only [Int.toNat_natCast] at h
    have h1w : 1 < w.heap.size := World.block_lt_of_cell? w ⟨1, 0, none⟩ (hT.cell 0 (by omega))
    refine copy15 _ _ _ _ A3 c3 l3 r w (fun W hb => impl_copied.calls A3 c3 l3 l3 W (Kd.C_below hr3 hb) hc3 (copied_f l3 g3)) (fun v0 base W hbase hb R => ?_)
    refine cp27 _ _ _ _ _ _ _ ?_
    rcases Nat.eq_zero_or_pos n with rfl | hn
    · refine (tr47z 1 _ _ _ _ W).mono ?_
      rintro e W' ⟨rfl, rfl⟩
      refine ⟨rfl, ?_, Below.refl _ _⟩
      have e : r = l3 := by
        refine Eq.trans ?_ (list_DL y3)
        rw [← h]
        apply List.map_congr_left
        intro j _
        congr 1
        refine (bytesB_of (DL_lt y3) (fun i => ?_) j).symm
        unfold turned
        rw [if_neg (by omega)]
      rw [e]
      exact R
    · obtain ⟨A, c, rfl⟩ := Kd.R_slice R
      obtain ⟨g, rfl, hg, hlc, hcm, O3⟩ := own_in R y3 (by omega)
      obtain ⟨B, O, rfl, hD⟩ := (row_of_kd hr0 y0).2 (by omega)
      have hB : B < w.heap.size := World.block_lt_of_cell? w ⟨B, O, none⟩ (hD.at_ 0 O (by omega) rfl)
      refine (tr47m1 B O l0.length c0 g c l3.length p q n (DL l0) (DL l3) W (hT.tch (Tch.of_below (S := fun _ => False) hb) (fun h => h)) (hD.tch (Tch.of_below (S := fun _ => False) hb) (fun h => h)) O3 (by omega) (by omega) hc0 hlc hn (by omega) (by omega) g0 (by omega)).mono ?_
      rintro e W' ⟨rfl, T, M', O', wr⟩
      refine ⟨rfl, ?_, ⟨T.os, T.tape, T.output, T.size, fun i hi => T.block i (by have := O3.lt; omega) (by omega)⟩⟩
      have k := own_back O' hg hlc hcm
      have e : (List.range l3.length).map (fun j => (M' j : Int)) = r := by
        rw [← h]
        apply List.map_congr_left
        intro j _
        rw [bytesB_of O'.byte wr j]
        rfl
      rw [e] at k
      exact k
  · cases h
end Go.Proofs.YthgbfmcicpmepaaDoor.V
